/- Part 2 of the proof of the law FnWrapped: for every input the law returns true, the inputs read as they did, and memory that was there is as it was; under the conditions of the given row alone. -/
import Derived.Deep.AppendSrc
import Derived.Great.BuildSlice
import Derived.Laws.Slices
import Derived.Lib.UnsafeStr
import Derived.Lib.BufferWrite
import Derived.Lib.BufferRead
import Derived.Laws.IdiomStrings
import Derived.Laws.MakeOwn
import Derived.Shelf.Bytes.GrowSlice
import Derived.Laws.Externs
import Derived.Lib.Bytealg
import Derived.Lib.MakeNoZero
import Derived.Lib.Builder
import Derived.Test.YtendaipfdnhnaaaGreatDoorA1
set_option linter.all false
open Go.IntKind(i64)
open ByteArray renaming mk→hP
open List renaming replicate→hN
namespace Go.Proofs.YtendaipfdnhnaaaGreatDoor
open Go.Proofs Go.IntWalk Go.RowKit
set_option maxRecDepth 20000
variable {σ:Out} {w:World} {L L':List ai} {R:Ending->World->Prop}
namespace jd
def bl1 (R:EP)(Xa:BA->Int->WP)(y:BA)(g:Int)(w:World):Prop:=((decide (g<(y.size:Int)))=true->0<=g/\g<(y.size:Int))/\(((decide (g<(y.size:Int))) && (!((bt y g)==32)))=true->0<=g/\g<(y.size:Int))/\(((decide (g<(y.size:Int))) && (!(((bt y g)==32)||((bt y g)==9))))=true->0<=g/\g<(y.size:Int))/\br ((decide (g<(y.size:Int))) && ((((bt y g)==32)||((bt y g)==9))||((bt y g)==10))) (Xa y (i64.wrap (g+1)) w) (R (hQ (hY g)) w)
def l1 (R:EP)(y:BA)(g:Int)(w:World):Prop:=∀X:BA->Int->WP,(∀y g w,bl1 R X y g w->X y g w)->X y g w
end jd
def jd (R:EP)(y:BA)(g:Int)(w:World):Prop:=jd.l1 R y g w
theorem jd.sound {R x0 x1 w}(h:jd R x0 x1 w):callE P kS #[hX x0,hY x1] R w:=
 aG [(9,.lp [1,27] (jd.bl1 R) λXa=> [])] Tryz.func171 Tryz.call171 h
namespace bW
def k3 (R:EP)(Xa:OA->Nat->Nat->BA->Int->OA->Nat->Nat->Int->Int->WP)(V:OA)(I O:Nat)(a7:BA)(a6:Int)(b3:BA)(y:OA)(E g:Nat)(W U:Int)(w:World):Prop:=Xa V I O a7 (i64.wrap (a6+(b3.size:Int))) y E g W (i64.wrap (U+1)) w
def bl2 (R:EP)(c1:BA->Nat->OA->Nat->Nat->Int->Int->WP)(W:BA)(y:Nat)(E:OA)(I b5:Nat)(V g:Int)(w:World):Prop:=br (decide (g<V)) (0<=g/\g<(I:Int)/\aA E λb6=>∃O,w.cell? (b6.add (Int.toNat g*1))=some (hX O)/\callE P bz #[kT (kE y),hX W] (λe b8=>∃b3,∃(b4:Value),e= hQ (.tuple #[hY b3,b4])/\callE P bz #[kT (kE y),hX O] (λe b7=>∃a6,∃(a7:Value),e= hQ (.tuple #[hY a6,a7])/\c1 W y E I b5 V (i64.wrap (g+1)) b7) b8) w) (callE P du #[kT (kE y)] (λe b9=>∃U,e= hQ (hX U)/\R (hQ (hX U)) b9) w)
def l2 (R:EP)(V:BA)(U:Nat)(g:OA)(y E:Nat)(O I:Int)(w:World):Prop:=∀X:BA->Nat->OA->Nat->Nat->Int->Int->WP,(∀V U g y E O I w,bl2 R X V U g y E O I w->X V U g y E O I w)->X V U g y E O I w
def bl1 (R:EP)(Xa:OA->Nat->Nat->BA->Int->OA->Nat->Nat->Int->Int->WP)(E:OA)(I b4:Nat)(b9:BA)(O:Int)(W:OA)(b3 c4:Nat)(b6 g:Int)(w:World):Prop:=br (decide (g<b6)) (0<=g/\g<(b3:Int)/\aA W λa3=>∃V,w.cell? (a3.add (Int.toNat g*1))=some (hX V)/\br (decide ((V.size:Int)>(i64.wrap (9223372036854775807 - O)))) (False) (k3 R Xa E I b4 b9 O V W b3 c4 b6 g w)) (box w #[kT none,hT none 0 0] cq λU c8=>callE P eV #[kT (kE U),hY O] (λe c1=>e= hQ (.tuple #[])/\0<=(0:Int)/\0<(I:Int)/\aA E λa9=>∃b7,c1.cell? (a9.add (Int.toNat 0*1))=some (hX b7)/\callE P bz #[kT (kE U),hX b7] (λe c5=>∃c2,∃(c3:Value),e= hQ (.tuple #[hY c2,c3])/\∃a7 y,∃a6 b8,(Instr.sliceAt al (hT E I b4) (some (hY 1)) none none).run P c5= .ok (hT a7 y a6) b8/\l2 R b9 U a7 y a6 (y:Int) 0 b8) c1) c8)
def l1 (R:EP)(V:OA)(I O:Nat)(a7:BA)(a6:Int)(y:OA)(E g:Nat)(W U:Int)(w:World):Prop:=∀X:OA->Nat->Nat->BA->Int->OA->Nat->Nat->Int->Int->WP,(∀V I O a7 a6 y E g W U w,bl1 R X V I O a7 a6 y E g W U w->X V I O a7 a6 y E g W U w)->X V I O a7 a6 y E g W U w
def k2 (R:EP)(E:OA)(g y:Nat)(O:BA)(I:Int)(w:World):Prop:=l1 R E g y O I E g y (g:Int) 0 w
def k1 (R:EP)(I:OA)(g E:Nat)(y:BA)(O:Int)(w:World):Prop:=k2 R I g E y (i64.wrap (O+(i64.wrap ((y.size:Int)*(i64.wrap ((g:Int) - 1)))))) w
end bW
def bW (R:EP)(E:OA)(g I:Nat)(y:BA)(w:World):Prop:=br ((g:Int)==0) (False) (br ((g:Int)==1) (0<=(0:Int)/\0<(g:Int)/\aA E λa1=>∃O,w.cell? (a1.add (Int.toNat 0*1))=some (hX O)/\R (hQ (hX O)) w) (br (decide ((y.size:Int)>0)) ((i64.wrap ((g:Int) - 1))≠0/\br (decide ((y.size:Int) >= (i64.wrap (Int.tdiv 9223372036854775807 (i64.wrap ((g:Int) - 1)))))) (False) (bW.k1 R E g I y 0 w)) (bW.k2 R E g I y 0 w)))
theorem bW.sound {R x0q x0n x0c x1 w}(h:bW R x0q x0n x0c x1 w):callE P gm #[hT x0q x0n x0c,hX x1] R w:=
 aG [(85,.no),(663,.no),(215,.mk [3,21,107] (bW.k1 R)),(31,.mk [3,21,107] (bW.k2 R)),(175,.lp [3,21,107,783,807,827] (bW.bl1 R) λXa=> [(339,.no),(115,.mk [3,21,107,141,783,807,827] (bW.k3 R Xa))]),(2815,.lp [21,166,1263,1287,1307] (bW.bl2 R) λg=> [])] Tryz.func233 Tryz.call233 h
namespace ak
noncomputable def body:Code:=m7 Tryz.f80
def k3 (R:EP)(Xa:OA->Nat->WP)(g:OA)(U:Nat)(w:World):Prop:=aA g λE=>∃y,w.cell? (E.add 5)=some (hY y)/\aA g λI=>stV w ((I.add 5).add 0) (hY (i64.wrap (y+1))) λO=>Xa g U O
def bl2 (R:EP)(h3:OA->Nat->WP)(h4:OA->Nat->OA->Nat->Nat->Int->Int->WP)(I:OA)(g:Nat)(b5:OA)(c2 f1:Nat)(e0 O:Int)(w:World):Prop:=br (decide (O<e0)) (0<=O/\O<(c2:Int)/\aA b5 λg1=>∃(c9:Value),w.cell? (g1.add (Int.toNat O*1))=some c9/\∃e4,w.cell? (hZ g 0)=some (hY e4)/\∃c8,w.cell? (hZ g 1)=some (hY c8)/\∃d3,w.cell? (hZ g 2)=some (hY d3)/\∃d0,w.cell? (hZ g 3)=some (hX d0)/\∃c5,w.cell? (hZ g 4)=some (.int .u8 c5)/\de P (do let d <-Deferred.ofValue c9 #[kT I,.agg #[hY e4,hY c8,hY d3,hX d0,.int .u8 c5]];invoke d.target d.args) (λe g5=>∃V W,∃b3 a6,∃a7 b4,e= hQ (.tuple #[.agg #[hY V,hY W,hY b3,hX a6,.int .u8 a7],hV b4])/\box g5 #[hY 0,hY 0,hY 0,hX (hP #[]),.int .u8 0] aW λy g7=>stV g7 (hZ y 0) (hY V) λh1=>stV h1 (hZ y 1) (hY W) λg3=>stV g3 (hZ y 2) (hY b3) λg0=>stV g0 (hZ y 3) (hX a6) λg2=>stV g2 (hZ y 4) (.int .u8 a7) λE=>br b4 (∃d2,E.cell? (hZ y 0)=some (hY d2)/\∃e3,E.cell? (hZ y 1)=some (hY e3)/\∃e1,E.cell? (hZ y 2)=some (hY e1)/\∃d1,E.cell? (hZ y 3)=some (hX d1)/\∃e2,E.cell? (hZ y 4)=some (.int .u8 e2)/\stV E (hZ g 0) (hY d2) λg6=>stV g6 (hZ g 1) (hY e3) λg4=>stV g4 (hZ g 2) (hY e1) λh2=>stV h2 (hZ g 3) (hX d1) λf2=>stV f2 (hZ g 4) (.int .u8 e2) λf3=>callE P ct #[kT (kE g)] (λe U=>∃c3,e= hQ (hV c3)/\br c3 (R (hQ (.tuple #[])) U) (aA I λf7=>∃c1,U.cell? (f7.add 5)=some (hY c1)/\aA I λf5=>stV U ((f5.add 5).add 0) (hY (i64.wrap (c1+1))) λf6=>h3 I g f6)) f3) (h4 I g b5 c2 f1 e0 (i64.wrap (O+1)) E)) w) (∃b8,w.cell? (hZ g 0)=some (hY b8)/\∃b6,w.cell? (hZ g 1)=some (hY b6)/\∃c4,w.cell? (hZ g 2)=some (hY c4)/\∃b7,w.cell? (hZ g 3)=some (hX b7)/\∃b9,w.cell? (hZ g 4)=some (.int .u8 b9)/\callE P qi #[kT I,.agg #[hY b8,hY b6,hY c4,hX b7,.int .u8 b9]] (λe f4=>∃e8 e5,∃e6 e7,∃e9 f0,e= hQ (.tuple #[.agg #[hY e8,hY e5,hY e6,hX e7,.int .u8 e9],hV f0])/\R (hQ (.tuple #[])) f4) w)
def l2 (R:EP)(W:OA->Nat->WP)(V:OA)(U:Nat)(g:OA)(y E:Nat)(O I:Int)(w:World):Prop:=∀X:OA->Nat->OA->Nat->Nat->Int->Int->WP,(∀V U g y E O I w,bl2 R W X V U g y E O I w->X V U g y E O I w)->X V U g y E O I w
noncomputable def al2 (R:EP)(g:OA->Nat->WP)(y:OA->Nat->OA->Nat->Nat->Int->Int->WP):AC:=(.leaf (sb 1780 body))
def bl102 (R:EP)(V:OA->Nat->WP)(U:OA)(O:Nat)(w:World):Prop:=callE P Dl #[] (λe I=>∃y g E,e= hQ (hT y g E)/\l2 R V U O y g E (g:Int) 0 I) w
def l102 (R:EP)(y:OA)(g:Nat)(w:World):Prop:=∀X:OA->Nat->WP,(∀y g w,bl102 R X y g w->X y g w)->X y g w
noncomputable def Ij (R:EP)(g:OA->Nat->WP):AC:=(.seq (.seq (.leaf (sb 444 body)) (.block 2 (.loop (leaf [(0,.s .ptr),(3,.s .loc),(86,.s .slice),(87,.s (.int .i64)),(88,.s (.int .i64))] (l2 R g)) (sb 1780 body)))) (.leaf (sb 223 body)))
def k2 (R:EP)(y:OA)(O:Nat)(w:World):Prop:=callE P ct #[kT (kE O)] (λe g=>∃E,e= hQ (hV E)/\br E (aA y λV=>∃I,g.cell? (V.add 5)=some (hY I)/\callE P bm #[kT y,hY (i64.wrap (I+1))] (λe U=>e= hQ (.tuple #[])/\R (hQ (.tuple #[])) U) g) (bl102 R (l102 R) y O g)) w
def k1 (R:EP)(Xa:OA->Nat->WP)(g:OA)(I:Nat)(a6 b7:Bool)(w:World):Prop:=br b7 (tk w λE=>aA g λb6=>aA g λb3=>aA g λb4=>∃U O a7,E.cell? (b6.add 4)=some (hT U O a7)/\∃y,E.cell? (b3.add 5)=some (hY y)/\∃V,E.cell? (b4.add 3)=some (hY V)/\0<=(i64.wrap (y+1))/\(i64.wrap (y+1))<(O:Int)/\aA U λb5=>stV E ((((b5.add (Int.toNat (i64.wrap (y+1))*4)).add 2).add 1).add 0) (hY V) λW=>br (!a6) (k2 R g I W) (k3 R Xa g I W)) (br (!a6) (k2 R g I w) (k3 R Xa g I w))
def bl1 (R:EP)(Xa:OA->Nat->WP)(U:OA)(g:Nat)(w:World):Prop:=tk w λO=>aA U λh9=>aA U λh8=>∃f4,O.cell? (h9.add 5)=some (hY f4)/\∃h4 e8 g6,O.cell? (h8.add 4)=some (hT h4 e8 g6)/\br (decide ((i64.wrap (f4+1))<(e8:Int))) (∃e6,O.cell? (hZ g 0)=some (hY e6)/\∃e5,O.cell? (hZ g 1)=some (hY e5)/\∃f0,O.cell? (hZ g 2)=some (hY f0)/\∃e7,O.cell? (hZ g 3)=some (hX e7)/\∃f2,O.cell? (hZ g 4)=some (.int .u8 f2)/\box O #[hY 0,hY 0,hY 0,hX (hP #[]),.int .u8 0] aW λE h2=>stV h2 (hZ E 0) (hY e6) λg1=>stV g1 (hZ E 1) (hY e5) λh5=>stV h5 (hZ E 2) (hY f0) λf6=>stV f6 (hZ E 3) (hX e7) λg2=>stV g2 (hZ E 4) (.int .u8 f2) λf7=>tk f7 λI=>aA U λg0=>aA U λg7=>∃d2 d1 f5,I.cell? (g0.add 4)=some (hT d2 d1 f5)/\∃W,I.cell? (g7.add 5)=some (hY W)/\0<=(i64.wrap (W+1))/\(i64.wrap (W+1))<(d1:Int)/\aA d2 λh1=>∃(f1:Value),I.cell? (h1.add (Int.toNat (i64.wrap (W+1))*4))=some f1/\∃d3,I.cell? (hZ g 0)=some (hY d3)/\∃e2,I.cell? (hZ g 1)=some (hY e2)/\∃e1,I.cell? (hZ g 2)=some (hY e1)/\∃e4,I.cell? (hZ g 3)=some (hX e4)/\∃e3,I.cell? (hZ g 4)=some (.int .u8 e3)/\de P (callMethod f1 "pub-paratext/pub/rscmarkdown.extend" #[kT U,.agg #[hY d3,hY e2,hY e1,hX e4,.int .u8 e3]]) (λe h7=>∃d0 c5,∃c9 c8,∃c4 V,e= hQ (.tuple #[.agg #[hY d0,hY c5,hY c9,hX c8,.int .u8 c4],hV V])/\stV h7 (hZ g 0) (hY d0) λh6=>stV h6 (hZ g 1) (hY c5) λg3=>stV g3 (hZ g 2) (hY c9) λg4=>stV g4 (hZ g 3) (hX c8) λh3=>stV h3 (hZ g 4) (.int .u8 c4) λg5=>callE P ct #[kT (kE E)] (λe y=>∃e0,e= hQ (hV e0)/\br (!e0) (br V (k1 R Xa U g V true y) (∃b9,y.cell? (hZ g 0)=some (hY b9)/\∃b3,y.cell? (hZ g 1)=some (hY b3)/\∃b8,y.cell? (hZ g 2)=some (hY b8)/\∃c2,y.cell? (hZ g 3)=some (hX c2)/\∃b7,y.cell? (hZ g 4)=some (.int .u8 b7)/\∃b6,y.cell? (hZ E 0)=some (hY b6)/\∃b4,y.cell? (hZ E 1)=some (hY b4)/\∃c1,y.cell? (hZ E 2)=some (hY c1)/\∃c3,y.cell? (hZ E 3)=some (hX c3)/\∃b5,y.cell? (hZ E 4)=some (.int .u8 b5)/\∃e9 f3,(do eqGuard .neq aW (.tmp 55) (.tmp 56) (.agg #[hY b9,hY b3,hY b8,hX c2,.int .u8 b7]) (.agg #[hY b6,hY b4,hY c1,hX c3,.int .u8 b5]);binOp .neq aW (.agg #[hY b9,hY b3,hY b8,hX c2,.int .u8 b7]) (.agg #[hY b6,hY b4,hY c1,hX c3,.int .u8 b5])).run P y= .ok (hV e9) f3/\k1 R Xa U g V e9 f3)) (k1 R Xa U g V false y)) g5) I) (k2 R U g O)
def l1 (R:EP)(y:OA)(g:Nat)(w:World):Prop:=∀X:OA->Nat->WP,(∀y g w,bl1 R X y g w->X y g w)->X y g w
noncomputable def al1 (R:EP)(Xa:OA->Nat->WP):AC:=(.seq (.seq (.draw (.pure 0 (.pure 1 (.pure 2 (.pure 5 (.pure 6 (.pure 7 (.load 3 (.pure 4 (.load 8 (.pure 9 (.pure 10 .done))))))))))) (sb 416 body)) (.leaf (sb 417 body))) (.seq (.block 1 (.seq (.leaf (sb 1672 body)) (.seq (.leaf (sb 3346 body)) (.seq (.draw (.pure 0 (.pure 1 (.pure 2 (.pure 4 (.pure 5 (.pure 6 (.pure 12 (.load 3 (.load 7 (.pure 8 (.pure 9 (.pure 10 (.load 11 (.load 13 (.one 14 (.pure 15 (.pure 16 (.pure 17 (.one 18 (.pure 19 .done)))))))))))))))))))) (sb 6694 body)) (.seq (.seq (.leaf (sb 26780 body)) (.mark (leaf [(0,.s .ptr),(3,.s .loc),(5,.s .bool),(59,.s .bool)] (k1 R Xa)) (.cond 59 (.draw (.pure 0 (.pure 1 (.pure 2 (.pure 4 (.pure 5 (.pure 6 (.pure 9 (.pure 10 (.pure 11 (.load 3 (.load 7 (.pure 8 (.load 12 (.pure 13 (.pure 14 (.pure 15 (.one 16 .done))))))))))))))))) (sb 53562 body)) (.leaf (sb 53563 body))))) (.leaf (sb 13391 body))))))) (.mark (leaf [(0,.s .ptr),(3,.s .loc)] (k3 R Xa)) (.leaf (sb 419 body)))))
end ak
def ak (R:EP)(g:OA)(y O U:Int)(I:BA)(E:Int)(w:World):Prop:=box w #[hY y,hY O,hY U,hX I,.int .u8 E] aW λb1 V=>aA g λa3=>stV V ((a3.add 5).add 0) (hY 0) λW=>ak.l1 R g b1 W
namespace ak
noncomputable def ac (R:EP):AC:=(.seq (.leaf (sb 2 body)) (.jump 0 (leaf [(0,.s .ptr),(3,.s .loc)] (l102 R)) (.seq (.leaf (sb 12 body)) (.seq (.block 0 (.loop (leaf [(0,.s .ptr),(3,.s .loc)] (l1 R)) (sb 104 body))) (.mark (leaf [(0,.s .ptr),(3,.s .loc)] (k2 R)) (.seq (.leaf (sb 54 body)) (.seq (.leaf (sb 110 body)) (.mark (leaf [(0,.s .ptr),(3,.s .loc)] (bl102 R (l102 R))) (Ij R (l102 R))))))))))
theorem good (R:EP):wy P 113 (ac R) (QF P [] R):=
 ⟨trivial,⟨⟨trivial,⟨(GP (al1 R) (bl1 R) (λ_=>by kernel_rfl) (λXa=>⟨⟨⟨by kernel_rfl,by kernel_rfl,λ_ _ _ h=>h⟩,trivial⟩,⟨⟨trivial,⟨trivial,⟨⟨by kernel_rfl,by kernel_rfl,λ_ _ _ h=>h⟩,⟨⟨trivial,⟨⟨⟨by kernel_rfl,by kernel_rfl,λ_ _ _ h=>h⟩,trivial⟩,cutZ⟩⟩,trivial⟩⟩⟩⟩,⟨trivial,cutZ⟩⟩⟩) (λXa=>by intro O I ρ w;kernel_rfl) (λX h _ _ _ y=>y X h)),⟨⟨trivial,⟨trivial,⟨⟨trivial,(GP (al2 R (l102 R)) (bl2 R (l102 R)) (λ_=>by kernel_rfl) (λE=>trivial) (λE=>by intro O I V W a6 b3 a7 ρ w;kernel_rfl) (λX h _ _ _ _ _ _ _ _ y=>y X h))⟩,trivial⟩,cutZ⟩⟩,cutZ⟩⟩⟩,.seq .skip (sb 111 body),by kernel_rfl,jumpG (l:=0) (λX=> .seq (.leaf .skip) (Ij R X)) (bl102 R) (by kernel_rfl) (λ_=>by kernel_rfl) (λU=>⟨trivial,⟨⟨trivial,(GP (al2 R U) (bl2 R U) (λ_=>by kernel_rfl) (λE=>trivial) (λE=>by intro O I V W a6 b3 a7 ρ w;kernel_rfl) (λX h _ _ _ _ _ _ _ _ y=>y X h))⟩,trivial⟩⟩) (λU=>by intro O I ρ w;kernel_rfl) (λX h _ _ _ y=>y X h)⟩⟩
theorem sound {R:EP}{U:OA}{g I O:Int}{E:ByteArray}{y:Int}{w:World}(h:ak R U g I O E y w):callE P iA #[kT U,.agg #[hY g,hY I,hY O,hX E,.int .u8 y]] R w:=
 Fk (c:=body) Tryz.func80 Tryz.call80 (good R) (by kernel_rfl) h
end ak
def Du (R:EP)(w:World):Prop:=∃E y,∃g I,(Instr.buildSlice cS 8 #[(0,.func (.func kD) #[] #[]),(1,.func (.func fF) #[] #[]),(2,.func (.func cg) #[] #[]),(3,.func (.func ra) #[] #[]),(4,.func (.func cm) #[] #[]),(5,.func (.func mg) #[] #[]),(6,.func (.func kF) #[] #[]),(7,.func (.func qh) #[] #[])]).run P w= .ok (hT E y g) I/\R (hQ (hT E y g)) I
theorem Du.sound {R w}(h:Du R w):callE P Dl #[] R w:=
 cF Tryz.func105 Tryz.call105 h
namespace d7
def k5 (R:EP)(g:Nat)(c2:OA)(d2:BA)(w:World):Prop:=aA c2 λc8=>∃a7 O a6,w.cell? c8=some (hT a7 O a6)/\∃E I,∃V b9,(Instr.buildSlice al 1 #[(0,hX d2)]).run P w= .ok (hT E I V) b9/\∃W U,∃b3 c1,(Builtin.append_ #[al,al] al #[hT a7 O a6,hT E I V]).run P b9= .ok (hT W U b3) c1/\aA c2 λc4=>stV c1 (c4.add 0) (hT W U b3) λd1=>stV d1 (hZ g 0) (hY 0) λc9=>stV c9 (hZ g 1) (hY 0) λc5=>stV c5 (hZ g 2) (hY 0) λd0=>stV d0 (hZ g 3) (hX (hP #[])) λc3=>stV c3 (hZ g 4) (.int .u8 0) λy=>∃b4,y.cell? (hZ g 0)=some (hY b4)/\∃b7,y.cell? (hZ g 1)=some (hY b7)/\∃b5,y.cell? (hZ g 2)=some (hY b5)/\∃b8,y.cell? (hZ g 3)=some (hX b8)/\∃b6,y.cell? (hZ g 4)=some (.int .u8 b6)/\R (hQ (.tuple #[.agg #[hY b4,hY b7,hY b5,hX b8,.int .u8 b6],hV true])) y
def bl1 (R:EP)(Xa:OA->Nat->OA->BA->Int->WP)(y:OA)(W:Nat)(a7:OA)(a6:BA)(g:Int)(w:World):Prop:=aA y λc1=>∃b5 O b3,w.cell? (c1.add 4)=some (hT b5 O b3)/\br (decide (g<(O:Int))) (tk w λE=>aA y λb6=>aA y λb7=>∃I U b4,E.cell? (b6.add 4)=some (hT I U b4)/\∃V,E.cell? (b7.add 3)=some (hY V)/\0<=g/\g<(U:Int)/\aA I λb8=>stV E ((((b8.add (Int.toNat g*4)).add 2).add 1).add 0) (hY V) λb9=>Xa y W a7 a6 (i64.wrap (g+1)) b9) (k5 R W a7 a6 w)
def l1 (R:EP)(O:OA)(y:Nat)(I:OA)(E:BA)(g:Int)(w:World):Prop:=∀X:OA->Nat->OA->BA->Int->WP,(∀O y I E g w,bl1 R X O y I E g w->X O y I E g w)->X O y I E g w
def k4 (R:EP)(E:OA)(V:Nat)(y:OA)(W:BA)(b3:Bool)(w:World):Prop:=br b3 (False) (∃I g,(do eqGuard .neq ar (.tmp 132) (.const (kT none)) (kT y) (kT none);binOp .neq ar (kT y) (kT none)).run P w= .ok (hV I) g/\br I (aA E λb4=>∃U,g.cell? (b4.add 5)=some (hY U)/\l1 R E V y W U g) (box g #[hT none 0 0,kT none] aM λO a7=>callE P bQ #[kT E,.iface ar (kT (kE O))] (λe a6=>e= hQ (.tuple #[])/\k5 R V (kE O) W a6) a7))
def k3 (R:EP)(I:OA)(O:Nat)(y:OA)(d2:Bool)(E:BA)(w:World):Prop:=tk w λg=>aA I λc5=>∃b4,g.cell? c5=some (kT b4)/\aA b4 λc4=>∃a7,g.cell? (c4.add 5)=some (hV a7)/\br a7 (∃b5,(∀w,(do eqGuard .neq ar (.tmp 59) (.const (kT none)) (kT y) (kT none);binOp .neq ar (kT y) (kT none)).run P w= .ok (hV b5) w)/\br b5 (br d2 (aA y λc9=>∃b9 V c1,g.cell? c9=some (hT b9 V c1)/\br (decide ((V:Int)>0)) (aA y λc8=>aA y λc3=>∃a6 W b7,g.cell? c8=some (hT a6 W b7)/\∃b8 U c2,g.cell? c3=some (hT b8 U c2)/\0<=(i64.wrap ((U:Int) - 1))/\(i64.wrap ((U:Int) - 1))<(W:Int)/\aA a6 λd0=>∃b3,g.cell? (d0.add (Int.toNat (i64.wrap ((U:Int) - 1))*1))=some (hX b3)/\callE P ut #[hX b3,hX E] (λe d1=>∃b6,e= hQ (hV b6)/\k4 R I O y E b6 d1) g) (k4 R I O y E false g)) (k4 R I O y E false g)) (k4 R I O y E false g)) (k4 R I O y E false g)
def k1 (R:EP)(O:OA)(y:Nat)(I:OA)(U:Bool)(E:BA)(g:Bool)(w:World):Prop:=br g (False) (k3 R O y I U E w)
end d7
def d7 (R:EP)(y:OA)(b6 c3 b9:Int)(c2:BA)(b8:Int)(w:World):Prop:=box w #[hY b6,hY c3,hY b9,hX c2,.int .u8 b8] aW λb1 d0=>box d0 #[hY 0,hY 0,hY 0,hX (hP #[]),.int .u8 0] aW λb5 c9=>callE P eL #[kT y] (λe c8=>∃g,e= hQ (kT g)/\tk c8 λW=>aA y λa8=>aA y λa9=>∃V,W.cell? (a8.add 5)=some (hY V)/\∃c1 I b7,W.cell? (a9.add 4)=some (hT c1 I b7)/\callE P gt #[kT (kE b1)] (λe c4=>∃U,e= hQ (hX U)/\∃b4 E,(do eqGuard .neq ar (.tmp 26) (.const (kT none)) (kT g) (kT none);binOp .neq ar (kT g) (kT none)).run P c4= .ok (hV b4) E/\br b4 (aA g λc5=>∃O,E.cell? (c5.add 1)=some (kT O)/\∃a7 a6,(do eqGuard .neq fC (.tmp 32) (.const (kT none)) (kT O) (kT none);binOp .neq fC (kT O) (kT none)).run P E= .ok (hV a7) a6/\d7.k1 R y b5 g (V==(i64.wrap ((I:Int) - 2))) U a7 a6) (d7.k1 R y b5 g (V==(i64.wrap ((I:Int) - 2))) U false E)) W) c9
theorem d7.sound {R x0 x1_0 x1_1 x1_2 x1_3 x1_4 w}(h:d7 R x0 x1_0 x1_1 x1_2 x1_3 x1_4 w):callE P qi #[kT x0,.agg #[hY x1_0,hY x1_1,hY x1_2,hX x1_3,.int .u8 x1_4]] R w:=
 aG [(11,.dr (rpN [0,3,6,12,15,18,10,22,24,27,30,33])),(111,.mk [2,86,122,140,161,680] (d7.k1 R)),(175,.no),(63,.mk [2,86,122,140,161] (d7.k3 R)),(159,.dr (rpN [0,3,6,10,12,15,19,21,24,27,30,33,36,39,42,45,48,51,55,57,60,63,66,69,72,75,81,84,87,105,79,91,93,96,99,103,110,111])),(223,.mk [2,86,122,161,1760] (d7.k4 R)),(351,.no),(2751,.lp [2,86,122,161,227] (d7.bl1 R) λXa=> [(9,.dr (rpN [0,3,6,12,15,18,21,10,25,27,30,33,38]))]),(255,.mk [86,122,161] (d7.k5 R))] Tryz.func106 Tryz.call106 h
namespace j2
def k1 (R:EP)(c2:OA)(E g c3:Nat)(b6:Bool)(w:World):Prop:=br b6 (False) (∃O,w.cell? (hZ E 0)=some (hY O)/\∃b4,w.cell? (hZ E 1)=some (hY b4)/\∃b5,w.cell? (hZ E 2)=some (hY b5)/\∃b3,w.cell? (hZ E 3)=some (hX b3)/\∃I,w.cell? (hZ E 4)=some (.int .u8 I)/\stV w (hZ g 0) (hY O) λb7=>stV b7 (hZ g 1) (hY b4) λb9=>stV b9 (hZ g 2) (hY b5) λb8=>stV b8 (hZ g 3) (hX b3) λc1=>stV c1 (hZ g 4) (.int .u8 I) λy=>∃U,y.cell? (hZ g 0)=some (hY U)/\∃W,y.cell? (hZ g 1)=some (hY W)/\∃a6,y.cell? (hZ g 2)=some (hY a6)/\∃a7,y.cell? (hZ g 3)=some (hX a7)/\∃V,y.cell? (hZ g 4)=some (.int .u8 V)/\R (hQ (.tuple #[.agg #[hY U,hY W,hY a6,hX a7,.int .u8 V],hV false])) y)
end j2
def j2 (R:EP)(E:OA)(b9 c4 c2:Int)(c3:BA)(c1:Int)(w:World):Prop:=box w #[hY b9,hY c4,hY c2,hX c3,.int .u8 c1] aW λb1 e1=>box e1 #[hY 0,hY 0,hY 0,hX (hP #[]),.int .u8 0] aW λU y=>∃b5,y.cell? (hZ b1 0)=some (hY b5)/\∃b8,y.cell? (hZ b1 1)=some (hY b8)/\∃b4,y.cell? (hZ b1 2)=some (hY b4)/\∃b6,y.cell? (hZ b1 3)=some (hX b6)/\∃b7,y.cell? (hZ b1 4)=some (.int .u8 b7)/\box y #[hY 0,hY 0,hY 0,hX (hP #[]),.int .u8 0] aW λg c5=>stV c5 (hZ g 0) (hY b5) λd0=>stV d0 (hZ g 1) (hY b8) λc8=>stV c8 (hZ g 2) (hY b4) λd2=>stV d2 (hZ g 3) (hX b6) λc9=>stV c9 (hZ g 4) (.int .u8 b7) λd1=>callE P eL #[kT E] (λe e0=>∃O,e= hQ (kT O)/\∃a7 I,(do eqGuard .eql ar (.tmp 10) (.const (kT none)) (kT O) (kT none);binOp .eql ar (kT O) (kT none)).run P e0= .ok (hV a7) I/\br a7 (callE P bp #[kT (kE g),hY 4,hY 4,hV false] (λe W=>∃a6,e= hQ (hV a6)/\br a6 (callE P ct #[kT (kE g)] (λe d3=>∃V,e= hQ (hV V)/\j2.k1 R E b1 U g (!V) d3) W) (j2.k1 R E b1 U g false W)) I) (j2.k1 R E b1 U g false I)) d1
theorem j2.sound {R x0 x1_0 x1_1 x1_2 x1_3 x1_4 w}(h:j2 R x0 x1_0 x1_1 x1_2 x1_3 x1_4 w):callE P qh #[kT x0,.agg #[hY x1_0,hY x1_1,hY x1_2,hX x1_3,.int .u8 x1_4]] R w:=
 aG [(27,.mk [2,66,86,126,360] (j2.k1 R)),(43,.no)] Tryz.func148 Tryz.call148 h
namespace bA
def k1 (R:EP)(Xa:OA->OA->OA->OA->Nat->WP)(V a6:OA)(W g:OA)(U:Nat)(w:World):Prop:=aA g λO=>∃y,w.cell? O=some (hY y)/\aA g λE=>stV w (E.add 0) (hY (i64.wrap (y+1))) λI=>Xa V a6 W g U I
def k4 (R:EP)(b8 c1 b9:OA)(I:BA)(y:Int)(b6:BA)(w:World):Prop:=callE P iM #[hX b6] (λe U=>∃E,e= hQ (hX E)/\aA b9 λb7=>stV U (b7.add 0) (hX E) λb5=>0<=y/\y<=(I.size:Int)/\aA c1 λW=>stV b5 (W.add 0) (hX (I.extract 0 (Int.toNat y))) λa7=>aA b8 λg=>stV a7 (g.add 0) (hY 0) λV=>stV V (g.add 1) (hY 0) λb4=>stV b4 (g.add 2) (hY 0) λa6=>stV a6 (g.add 3) (hX (hP #[])) λO=>stV O (g.add 4) (.int .u8 0) λb3=>R (hQ (hV true)) b3) w
def bl2 (R:EP)(b9:OA->OA->OA->Nat->Int->BA->Int->Int->WP)(V a6 W:OA)(U:Nat)(O:Int)(I:BA)(y b5:Int)(w:World):Prop:=callE P fT #[kT (kE U),.int .u8 O] (λe E=>∃b3,e= hQ (hV b3)/\br (!b3) (br (decide (b5 >= 3)) (callE P jM #[kT (kE U)] (λe b8=>∃a7,e= hQ (hX a7)/\callE P gP #[.agg #[],hX a7] (λe b7=>∃g,e= hQ (hX g)/\br (O==96) (callE P jn #[hX g,hX (hP #[96])] (λe b6=>∃b4,e= hQ (hV b4)/\br b4 (R (hQ (hV false)) b6) (k4 R V a6 W I y g b6)) b7) (k4 R V a6 W I y g b7)) b8) E) (R (hQ (hV false)) E)) (b9 V a6 W U O I (i64.wrap (y+1)) (i64.wrap (b5+1)) E)) w
def l2 (R:EP)(U W V:OA)(O:Nat)(g:Int)(E:BA)(I y:Int)(w:World):Prop:=∀X:OA->OA->OA->Nat->Int->BA->Int->Int->WP,(∀U W V O g E I y w,bl2 R X U W V O g E I y w->X U W V O g E I y w)->X U W V O g E I y w
def k3 (R:EP)(U W V:OA)(y:Nat)(I:Int)(E:Bool)(w:World):Prop:=br E (callE P im #[kT (kE y)] (λe O=>∃g,e= hQ (hX g)/\l2 R U W V y I g 0 0 O) w) (R (hQ (hV false)) w)
def k2 (R:EP)(I U O:OA)(y:Nat)(w:World):Prop:=callE P i6 #[kT (kE y)] (λe E=>∃g,e= hQ (.int .u8 g)/\br (g==96) (k3 R I U O y g true E) (k3 R I U O y g (g==126) E)) w
def bl1 (R:EP)(Xa:OA->OA->OA->OA->Nat->WP)(y I:OA)(E W:OA)(g:Nat)(w:World):Prop:=aA W λa6=>∃V,w.cell? a6=some (hY V)/\br (decide (V<3)) (callE P bp #[kT (kE g),hY 1,hY 1,hV false] (λe U=>∃O,e= hQ (hV O)/\br O (k1 R Xa y I E W g U) (k2 R y I E g U)) w) (k2 R y I E g w)
def l1 (R:EP)(E O:OA)(I y:OA)(g:Nat)(w:World):Prop:=∀X:OA->OA->OA->OA->Nat->WP,(∀E O I y g w,bl1 R X E O I y g w->X E O I y g w)->X E O I y g w
end bA
def bA (R:EP)(U b9:OA)(b8 I:OA)(w:World):Prop:=aA U λa1=>∃V,w.cell? (a1.add 0)=some (hY V)/\∃E,w.cell? (a1.add 1)=some (hY E)/\∃y,w.cell? (a1.add 2)=some (hY y)/\∃O,w.cell? (a1.add 3)=some (hX O)/\∃W,w.cell? (a1.add 4)=some (.int .u8 W)/\box w #[hY 0,hY 0,hY 0,hX (hP #[]),.int .u8 0] aW λg b6=>stV b6 (hZ g 0) (hY V) λc1=>stV c1 (hZ g 1) (hY E) λb4=>stV b4 (hZ g 2) (hY y) λa7=>stV a7 (hZ g 3) (hX O) λa6=>stV a6 (hZ g 4) (.int .u8 W) λb3=>aA I λa14=>stV b3 (a14.add 0) (hY 0) λb5=>bA.l1 R U b9 b8 I g b5
theorem bA.sound {R x0 x1 x2 x3 w}(h:bA R x0 x1 x2 x3 w):callE P gh #[kT x0,kT x1,kT x2,kT x3] R w:=
 aG [(39,.lp [2,22,42,62,186] (bA.bl1 R) λXa=> [(3,.mk [2,22,42,62,186] (bA.k1 R Xa))]),(31,.mk [2,22,42,186] (bA.k2 R)),(879,.mk [2,22,42,186,208,680] (bA.k3 R)),(44399,.lp [2,22,42,186,208,221,247,267] (bA.bl2 R) λg=> []),(64879,.mk [2,22,42,221,247,281] (bA.k4 R))] Tryz.func201 Tryz.call201 h
namespace dW
def k4 (R:EP)(c3:OA)(g c4:Nat)(c1 c2:Nat)(w:World):Prop:=∃V,w.cell? (hZ c4 0)=some (hX V)/\∃a7,w.cell? (hZ c1 0)=some (hX a7)/\∃E,w.cell? (hZ c2 0)=some (hY E)/\box w #[hX V,hX a7,hY E,hT none 0 0] nt λb3 b9=>callE P bQ #[kT c3,.iface ia (kT (kE b3))] (λe b8=>e= hQ (.tuple #[])/\stV b8 (hZ g 0) (hY 0) λb6=>stV b6 (hZ g 1) (hY 0) λb5=>stV b5 (hZ g 2) (hY 0) λb7=>stV b7 (hZ g 3) (hX (hP #[])) λb4=>stV b4 (hZ g 4) (.int .u8 0) λy=>∃I,y.cell? (hZ g 0)=some (hY I)/\∃W,y.cell? (hZ g 1)=some (hY W)/\∃O,y.cell? (hZ g 2)=some (hY O)/\∃a6,y.cell? (hZ g 3)=some (hX a6)/\∃U,y.cell? (hZ g 4)=some (.int .u8 U)/\R (hQ (.tuple #[.agg #[hY I,hY W,hY O,hX a6,.int .u8 U],hV true])) y) b9
def bl1 (R:EP)(Xa:OA->Nat->Nat->Nat->Nat->Value->WP)(a6:OA)(U W:Nat)(a7 V:Nat)(g:Value)(w:World):Prop:=(∃O,(Instr.next g true ty_).run P w= .ok (.tuple #[hV false]) O/\k4 R a6 U W a7 V O)\/ (∃b3 y E,(Instr.next g true ty_).run P w= .ok (.tuple #[hV true,hY b3,.int .i32 y]) E/\callE P dL #[.int .i32 y] (λe b4=>∃I,e= hQ (hV I)/\br I (False) (Xa a6 U W a7 V g b4)) E)
def l1 (R:EP)(O:OA)(y I:Nat)(U E:Nat)(g:Value)(w:World):Prop:=∀X:OA->Nat->Nat->Nat->Nat->Value->WP,(∀O y I U E g w,bl1 R X O y I U E g w->X O y I U E g w)->X O y I U E g w
def k2 (R:EP)(W:OA)(O V:Nat)(I U:Nat)(w:World):Prop:=∃g,w.cell? (hZ I 0)=some (hX g)/\∃(y:Value),∃E,(Instr.range aq (hX g)).run P w= .ok y E/\l1 R W O V I U y E
def k3 (R:EP)(O:OA)(y I:Nat)(U E:Nat)(g:Bool)(w:World):Prop:=br g (False) (k2 R O y I U E w)
def k1 (R:EP)(W:OA)(O V:Nat)(g U:Nat)(a7:Bool)(w:World):Prop:=br a7 (False) (∃E,w.cell? (hZ g 0)=some (hX E)/\br (!(E.toList==(hP #[]).toList)) (∃y,w.cell? (hZ g 0)=some (hX y)/\(true=true->0<=(0:Int)/\0<(y.size:Int))/\callE P rg #[.int .u8 (bt y 0)] (λe a6=>∃I,e= hQ (hV I)/\k3 R W O V g U (!I) a6) w) (k3 R W O V g U false w))
end dW
def dW (R:EP)(e2:OA)(e3 e7 e5:Int)(e6:BA)(e4:Int)(w:World):Prop:=box w #[hY e3,hY e7,hY e5,hX e6,.int .u8 e4] aW λb1 g2=>box g2 #[hY 0,hY 0,hY 0,hX (hP #[]),.int .u8 0] aW λg g1=>box g1 #[hX (hP #[])] aq λU g0=>box g0 #[hX (hP #[])] aq λV g3=>box g3 #[hY 0] ba λa6 E=>∃c2,E.cell? (hZ b1 0)=some (hY c2)/\∃d0,E.cell? (hZ b1 1)=some (hY d0)/\∃c4,E.cell? (hZ b1 2)=some (hY c4)/\∃d3,E.cell? (hZ b1 3)=some (hX d3)/\∃b6,E.cell? (hZ b1 4)=some (.int .u8 b6)/\box E #[hY 0,hY 0,hY 0,hX (hP #[]),.int .u8 0] aW λI f2=>stV f2 (hZ I 0) (hY c2) λf6=>stV f6 (hZ I 1) (hY d0) λe9=>stV e9 (hZ I 2) (hY c4) λf3=>stV f3 (hZ I 3) (hX d3) λf0=>stV f0 (hZ I 4) (.int .u8 b6) λf1=>callE P gh #[kT (kE I),kT (kE U),kT (kE V),kT (kE a6)] (λe y=>∃b4,e= hQ (hV b4)/\br b4 (∃W,y.cell? (hZ U 0)=some (hX W)/\0<=(0:Int)/\0<(W.size:Int)/\br ((bt W 0)==126) (∃d2,y.cell? (hZ V 0)=some (hX d2)/\dW.k1 R e2 g U V a6 (!(d2.toList==(hP #[]).toList)) y) (dW.k1 R e2 g U V a6 false y)) (∃e0,y.cell? (hZ b1 0)=some (hY e0)/\∃d1,y.cell? (hZ b1 1)=some (hY d1)/\∃a7,y.cell? (hZ b1 2)=some (hY a7)/\∃c1,y.cell? (hZ b1 3)=some (hX c1)/\∃b8,y.cell? (hZ b1 4)=some (.int .u8 b8)/\stV y (hZ g 0) (hY e0) λf4=>stV f4 (hZ g 1) (hY d1) λf5=>stV f5 (hZ g 2) (hY a7) λe8=>stV e8 (hZ g 3) (hX c1) λf7=>stV f7 (hZ g 4) (.int .u8 b8) λO=>∃c8,O.cell? (hZ g 0)=some (hY c8)/\∃c9,O.cell? (hZ g 1)=some (hY c9)/\∃c5,O.cell? (hZ g 2)=some (hY c5)/\∃c3,O.cell? (hZ g 3)=some (hX c3)/\∃e1,O.cell? (hZ g 4)=some (.int .u8 e1)/\R (hQ (.tuple #[.agg #[hY c8,hY c9,hY c5,hX c3,.int .u8 e1],hV false])) O)) f1
theorem dW.sound {R x0 x1_0 x1_1 x1_2 x1_3 x1_4 w}(h:dW R x0 x1_0 x1_1 x1_2 x1_3 x1_4 w):callE P kF #[kT x0,.agg #[hY x1_0,hY x1_1,hY x1_2,hX x1_3,.int .u8 x1_4]] R w:=
 aG [(815,.mk [2,86,126,146,166,400] (dW.k1 R)),(1327,.no),(3887,.mk [2,86,126,146,166,620] (dW.k3 R)),(5935,.no),(431,.mk [2,86,126,146,166] (dW.k2 R)),(2735,.lp [2,86,126,146,166,725] (dW.bl1 R) λXa=> [(91,.no)]),(943,.mk [2,86,126,146,166] (dW.k4 R))] Tryz.func147 Tryz.call147 h
namespace bM
def k1 (R:EP)(U:OA)(O g g2:Nat)(f6:Bool)(w:World):Prop:=br f6 (callE P aJ #[kT U] (λe e7=>∃(e1:Value),e= hQ e1/\callE P me #[kT U] (λe e9=>∃(a6:Value),e= hQ a6/\∃V W c4,(Instr.typeAssert a6 aO bE true).run P e9= .ok (.tuple #[kT V,hV W]) c4/\br (!W) (False) (callE P jv #[kT U] (λe e2=>e= hQ (.tuple #[])/\tk e2 λI=>aA V λf0=>aA U λe6=>aA V λf2=>∃c2,I.cell? f0=some (hY c2)/\∃b8,I.cell? (e6.add 3)=some (hY b8)/\∃e0,I.cell? (hZ g2 0)=some (hY e0)/\∃b5,I.cell? (f2.add 2)=some (kT b5)/\box I #[hY c2,hY b8,hY e0,kT b5,hX (hP #[])] qH λf3 g0=>callE P dS #[kT U,.iface gH (kT (kE f3))] (λe f5=>e= hQ (.tuple #[])/\stV f5 (hZ g 0) (hY 0) λe5=>stV e5 (hZ g 1) (hY 0) λg1=>stV g1 (hZ g 2) (hY 0) λf4=>stV f4 (hZ g 3) (hX (hP #[])) λf1=>stV f1 (hZ g 4) (.int .u8 0) λE=>∃b3,E.cell? (hZ g 0)=some (hY b3)/\∃d0,E.cell? (hZ g 1)=some (hY d0)/\∃c3,E.cell? (hZ g 2)=some (hY c3)/\∃c9,E.cell? (hZ g 3)=some (hX c9)/\∃d3,E.cell? (hZ g 4)=some (.int .u8 d3)/\R (hQ (.tuple #[.agg #[hY b3,hY d0,hY c3,hX c9,.int .u8 d3],hV true])) E) g0) c4)) e7) w) (∃b6,w.cell? (hZ O 0)=some (hY b6)/\∃a7,w.cell? (hZ O 1)=some (hY a7)/\∃b7,w.cell? (hZ O 2)=some (hY b7)/\∃b4,w.cell? (hZ O 3)=some (hX b4)/\∃d2,w.cell? (hZ O 4)=some (.int .u8 d2)/\stV w (hZ g 0) (hY b6) λe8=>stV e8 (hZ g 1) (hY a7) λf7=>stV f7 (hZ g 2) (hY b7) λe4=>stV e4 (hZ g 3) (hX b4) λe3=>stV e3 (hZ g 4) (.int .u8 d2) λy=>∃c5,y.cell? (hZ g 0)=some (hY c5)/\∃b9,y.cell? (hZ g 1)=some (hY b9)/\∃c8,y.cell? (hZ g 2)=some (hY c8)/\∃c1,y.cell? (hZ g 3)=some (hX c1)/\∃d1,y.cell? (hZ g 4)=some (.int .u8 d1)/\R (hQ (.tuple #[.agg #[hY c5,hY b9,hY c8,hX c1,.int .u8 d1],hV false])) y)
end bM
def bM (R:EP)(E:OA)(c1 c5 c3:Int)(c4:BA)(c2:Int)(w:World):Prop:=box w #[hY c1,hY c5,hY c3,hX c4,.int .u8 c2] aW λb1 e4=>box e4 #[hY 0,hY 0,hY 0,hX (hP #[]),.int .u8 0] aW λb9 e3=>box e3 #[hY 0] ba λV y=>∃b6,y.cell? (hZ b1 0)=some (hY b6)/\∃b7,y.cell? (hZ b1 1)=some (hY b7)/\∃b8,y.cell? (hZ b1 2)=some (hY b8)/\∃a7,y.cell? (hZ b1 3)=some (hX a7)/\∃a6,y.cell? (hZ b1 4)=some (.int .u8 a6)/\box y #[hY 0,hY 0,hY 0,hX (hP #[]),.int .u8 0] aW λg d2=>stV d2 (hZ g 0) (hY b6) λe1=>stV e1 (hZ g 1) (hY b7) λd3=>stV d3 (hZ g 2) (hY b8) λe0=>stV e0 (hZ g 3) (hX a7) λd0=>stV d0 (hZ g 4) (.int .u8 a6) λe2=>callE P gA #[kT E] (λe d1=>∃(U:Value),e= hQ U/\callE P eL #[kT E] (λe c9=>∃I,e= hQ (kT I)/\∃W O,(do eqGuard .eql bO (.tmp 12) (.tmp 15) U (.iface ar (kT I));binOp .eql bO U (.iface ar (kT I))).run P c9= .ok (hV W) O/\br W (callE P fG #[kT (kE g),kT (kE V)] (λe c8=>∃b4,e= hQ (hV b4)/\bM.k1 R E b1 b9 V b4 c8) O) (bM.k1 R E b1 b9 V false O)) d1) e2
theorem bM.sound {R x0 x1_0 x1_1 x1_2 x1_3 x1_4 w}(h:bM R x0 x1_0 x1_1 x1_2 x1_3 x1_4 w):callE P cg #[kT x0,.agg #[hY x1_0,hY x1_1,hY x1_2,hX x1_3,.int .u8 x1_4]] R w:=
 aG [(55,.mk [2,66,86,126,380] (bM.k1 R)),(2775,.no),(3031,.dr (rpN [0,3,6,9,12,18,21,24,36,39,42,16,28,30,34,46,48,53,54,59]))] Tryz.func143 Tryz.call143 h
namespace cQ
def k1 (R:EP)(i2:OA)(y g:Nat)(f6:OA)(h9:Bool)(w:World):Prop:=br h9 (aA f6 λa13=>∃(f2:Value),w.cell? (a13.add 4)=some f2/\de P (do let d <-Deferred.ofValue f2 #[];invoke d.target d.args) (λe h5=>∃b3 a6,∃a7 W b4,e= hQ (.agg #[hY b3,hY a6,hY a7,hX W,.int .u8 b4])/\stV h5 (hZ y 0) (hY b3) λg3=>stV g3 (hZ y 1) (hY a6) λh8=>stV h8 (hZ y 2) (hY a7) λf7=>stV f7 (hZ y 3) (hX W) λg4=>stV g4 (hZ y 4) (.int .u8 b4) λg1=>aA f6 λh1=>stV g1 ((h1.add 4).add 0) .nilFunc λO=>∃c1,O.cell? (hZ y 0)=some (hY c1)/\∃b8,O.cell? (hZ y 1)=some (hY b8)/\∃f0,O.cell? (hZ y 2)=some (hY f0)/\∃f3,O.cell? (hZ y 3)=some (hX f3)/\∃e8,O.cell? (hZ y 4)=some (.int .u8 e8)/\stV O (hZ g 0) (hY c1) λg5=>stV g5 (hZ g 1) (hY b8) λg7=>stV g7 (hZ g 2) (hY f0) λh7=>stV h7 (hZ g 3) (hX f3) λh4=>stV h4 (hZ g 4) (.int .u8 e8) λV=>∃f1,V.cell? (hZ g 0)=some (hY f1)/\∃c9,V.cell? (hZ g 1)=some (hY c9)/\∃e1,V.cell? (hZ g 2)=some (hY e1)/\∃e3,V.cell? (hZ g 3)=some (hX e3)/\∃e5,V.cell? (hZ g 4)=some (.int .u8 e5)/\R (hQ (.tuple #[.agg #[hY f1,hY c9,hY e1,hX e3,.int .u8 e5],hV true])) V) w) (callE P bN #[kT i2,kT (kE y)] (λe E=>∃c4,e= hQ (hV c4)/\br c4 (∃f5,E.cell? (hZ y 0)=some (hY f5)/\∃c5,E.cell? (hZ y 1)=some (hY c5)/\∃c2,E.cell? (hZ y 2)=some (hY c2)/\∃b5,E.cell? (hZ y 3)=some (hX b5)/\∃b9,E.cell? (hZ y 4)=some (.int .u8 b9)/\stV E (hZ g 0) (hY f5) λh3=>stV h3 (hZ g 1) (hY c5) λg2=>stV g2 (hZ g 2) (hY c2) λi1=>stV i1 (hZ g 3) (hX b5) λi0=>stV i0 (hZ g 4) (.int .u8 b9) λU=>∃d2,U.cell? (hZ g 0)=some (hY d2)/\∃b7,U.cell? (hZ g 1)=some (hY b7)/\∃e9,U.cell? (hZ g 2)=some (hY e9)/\∃e2,U.cell? (hZ g 3)=some (hX e2)/\∃e7,U.cell? (hZ g 4)=some (.int .u8 e7)/\R (hQ (.tuple #[.agg #[hY d2,hY b7,hY e9,hX e2,.int .u8 e7],hV true])) U) (∃f4,E.cell? (hZ y 0)=some (hY f4)/\∃d0,E.cell? (hZ y 1)=some (hY d0)/\∃b6,E.cell? (hZ y 2)=some (hY b6)/\∃d1,E.cell? (hZ y 3)=some (hX d1)/\∃c3,E.cell? (hZ y 4)=some (.int .u8 c3)/\stV E (hZ g 0) (hY f4) λh2=>stV h2 (hZ g 1) (hY d0) λg6=>stV g6 (hZ g 2) (hY b6) λh6=>stV h6 (hZ g 3) (hX d1) λg0=>stV g0 (hZ g 4) (.int .u8 c3) λI=>∃c8,I.cell? (hZ g 0)=some (hY c8)/\∃e4,I.cell? (hZ g 1)=some (hY e4)/\∃d3,I.cell? (hZ g 2)=some (hY d3)/\∃e6,I.cell? (hZ g 3)=some (hX e6)/\∃e0,I.cell? (hZ g 4)=some (.int .u8 e0)/\R (hQ (.tuple #[.agg #[hY c8,hY e4,hY d3,hX e6,.int .u8 e0],hV false])) I)) w)
end cQ
def cQ (R:EP)(I:OA)(a7 b6 b7:Int)(b5:BA)(b4:Int)(w:World):Prop:=box w #[hY a7,hY b6,hY b7,hX b5,.int .u8 b4] aW λb1 b8=>box b8 #[hY 0,hY 0,hY 0,hX (hP #[]),.int .u8 0] aW λa6 c1=>callE P jL #[kT I] (λe b9=>∃(W:Value),e= hQ W/\∃g O y,(Instr.typeAssert W bO aB true).run P b9= .ok (.tuple #[kT g,hV O]) y/\br O (aA g λa9=>∃(E:Value),y.cell? (a9.add 4)=some E/\∃V U,(do eqGuard .neq ns (.tmp 19) (.const .nilFunc) E .nilFunc;binOp .neq ns E .nilFunc).run P y= .ok (hV V) U/\cQ.k1 R I b1 a6 g V U) (cQ.k1 R I b1 a6 g false y)) c1
theorem cQ.sound {R x0 x1_0 x1_1 x1_2 x1_3 x1_4 w}(h:cQ R x0 x1_0 x1_1 x1_2 x1_3 x1_4 w):callE P cm #[kT x0,.agg #[hY x1_0,hY x1_1,hY x1_2,hX x1_3,.int .u8 x1_4]] R w:=
 aG [(29,.mk [2,66,86,122,420] (cQ.k1 R))] Tryz.func145 Tryz.call145 h
def jQ (R:EP)(E:OA)(w:World):Prop:=tk w λI=>aA E λa2=>aA E λa3=>∃a6,I.cell? (a2.add 5)=some (hY a6)/\∃b5 U b4,I.cell? (a3.add 4)=some (hT b5 U b4)/\br (decide (a6<(U:Int))) (tk I λy=>aA E λb6=>aA E λa8=>∃W O b3,y.cell? (b6.add 4)=some (hT W O b3)/\∃g,y.cell? (a8.add 5)=some (hY g)/\0<=g/\g<(O:Int)/\aA W λa11=>∃(V:Value),y.cell? (a11.add (Int.toNat g*4))=some V/\R (hQ V) y) (R (.returned .nilIface) I)
theorem jQ.sound {R x0 w}(h:jQ R x0 w):callE P jL #[kT x0] R w:=
 aG [(9,.dr (rpN [0,3,6,12,15,18,10,22,24,27])),(37,.dr (rpN [0,3,6,12,15,18,10,22,24,27,31,33]))] Tryz.func198 Tryz.call198 h
def jy (R:EP)(E:OA)(w:World):Prop:=tk w λI=>aA E λa2=>aA E λa3=>∃a6,I.cell? (a2.add 5)=some (hY a6)/\∃b5 U b4,I.cell? (a3.add 4)=some (hT b5 U b4)/\br (decide ((i64.wrap (a6+1))<(U:Int))) (tk I λy=>aA E λb6=>aA E λa8=>∃W O b3,y.cell? (b6.add 4)=some (hT W O b3)/\∃g,y.cell? (a8.add 5)=some (hY g)/\0<=(i64.wrap (g+1))/\(i64.wrap (g+1))<(O:Int)/\aA W λa11=>∃(V:Value),y.cell? (a11.add (Int.toNat (i64.wrap (g+1))*4))=some V/\R (hQ V) y) (R (.returned .nilIface) I)
theorem jy.sound {R x0 w}(h:jy R x0 w):callE P gA #[kT x0] R w:=
 aG [(9,.dr (rpN [0,3,6,15,18,21,10,12,25,27,30])),(37,.dr (rpN [0,3,6,12,15,18,10,22,24,27,30,34,36]))] Tryz.func193 Tryz.call193 h
namespace am
def k5 (R:EP)(Xa:Nat->Nat->Int->Int->Int->Nat->Int->Int->WP)(W O:Nat)(V U I:Int)(E:Nat)(g y:Int)(w:World):Prop:=Xa W O V U I E (i64.wrap (g+1)) (i64.wrap (y+1)) w
def k9 (R:EP)(W:Nat->Nat->Int->Int->Int->WP)(V E:Nat)(U O:Int)(g I:Int)(w:World):Prop:=∃y,w.cell? (hZ E 1)=some (hY y)/\br (decide ((i64.wrap (g - y)) >= 9)) (False) (W V E U (i64.wrap ((i64.wrap ((i64.wrap (O*10))+(i64.wrap I))) - 48)) (i64.wrap (g+1)) w)
def k14 (R:EP)(V U:Nat)(y O:Nat)(w:World):Prop:=∃g,w.cell? (hZ y 0)=some (kT g)/\aA g λI=>stV w ((I.add 4).add 0) (.func (.func eF) #[] #[kT (kE V),kT (kE O),kT (kE y),kT (kE U)]) λE=>R (hQ (hV true)) E
def k13 (R:EP)(W E:Nat)(a6:Int)(g:Nat)(w:World):Prop:=tk w λy=>∃I,y.cell? (hZ g 0)=some (kT I)/\(callE P ct #[kT (kE E)] (λe O=>∃V,e= hQ (hV V)/\SameC y O (hZ g 0) 1/\(box O #[kT I,hY a6,hV (!V)] iJ λd0 b5=>box b5 #[kT none] bw λb6 b8=>SameC b5 b8 (hZ g 0) 1/\stV b8 (hZ b6 0) (kT (kE d0)) λc8=>k14 R W E g b6 c8)/\(box O #[kT none] bw λb9 b7=>SameC O b7 (hZ g 0) 1/\box b7 #[kT I,hY a6,hV (!V)] iJ λc9 c5=>stV c5 (hZ b9 0) (kT (kE c9)) λc2=>k14 R W E g b9 c2)) y)/\(box y #[kT none] bw λa7 U=>SameC y U (hZ g 0) 1/\callE P ct #[kT (kE E)] (λe b4=>∃b3,e= hQ (hV b3)/\SameC U b4 (hZ g 0) 1/\box b4 #[kT I,hY a6,hV (!b3)] iJ λc1 c3=>stV c3 (hZ a7 0) (kT (kE c1)) λc4=>k14 R W E g a7 c4) U)
def k12 (R:EP)(O b3:Nat)(b5 b4 a7:Int)(y:Nat)(U:Bool)(w:World):Prop:=br U (False) (box w #[.int .i32 (IntKind.i32.wrap b4),hY a7,hV false,kT none,.nilFunc] gj λW V=>stV V (hZ y 0) (kT (kE W)) λg=>∃I,g.cell? (hZ O 0)=some (kT I)/\∃E,g.cell? (hZ y 0)=some (kT E)/\callE P bQ #[kT I,.iface aB (kT E)] (λe a6=>e= hQ (.tuple #[])/\k13 R O b3 b5 y a6) g)
def k11 (R:EP)(I y:Nat)(V E U:Int)(g:Nat)(b7:Bool)(w:World):Prop:=br b7 (∃a6,w.cell? (hZ g 0)=some (kT a6)/\∃b3 O,(do eqGuard .eql aB (.tmp 137) (.const (kT none)) (kT a6) (kT none);binOp .eql aB (kT a6) (kT none)).run P w= .ok (hV b3) O/\br b3 (∃b4,O.cell? (hZ I 0)=some (kT b4)/\callE P eL #[kT b4] (λe b9=>∃W,e= hQ (kT W)/\∃b6 a7,(do eqGuard .neq ar (.tmp 141) (.const (kT none)) (kT W) (kT none);binOp .neq ar (kT W) (kT none)).run P b9= .ok (hV b6) a7/\br b6 (callE P ct #[kT (kE y)] (λe b8=>∃b5,e= hQ (hV b5)/\k12 R I y V E U g (b5||(((E==46)||(E==41)) && (U !=1))) b8) a7) (k12 R I y V E U g false a7)) O) (k12 R I y V E U g false O)) (k13 R I y V g w)
def k10 (R:EP)(b3 a6:Nat)(a7 I W:Int)(y:Nat)(w:World):Prop:=∃E,w.cell? (hZ y 0)=some (kT E)/\∃O g,(do eqGuard .eql aB (.tmp 126) (.const (kT none)) (kT E) (kT none);binOp .eql aB (kT E) (kT none)).run P w= .ok (hV O) g/\br O (k11 R b3 a6 a7 I W y true g) (∃U,g.cell? (hZ y 0)=some (kT U)/\aA U λb4=>∃V,g.cell? b4=some (.int .i32 V)/\k11 R b3 a6 a7 I W y (V !=(IntKind.i32.wrap I)) g)
def k8 (R:EP)(E a7:Nat)(b4 b3 a6:Int)(w:World):Prop:=box w #[kT none] aB λg U=>∃W,U.cell? (hZ E 0)=some (kT W)/\callE P gA #[kT W] (λe b6=>∃(V:Value),e= hQ V/\∃O I y,(Instr.typeAssert V bO aB true).run P b6= .ok (.tuple #[kT O,hV I]) y/\br I (stV y (hZ g 0) (kT O) λb5=>k10 R E a7 b4 b3 a6 g b5) (k10 R E a7 b4 b3 a6 g y)) U
def k6 (R:EP)(a7 y:Nat)(b5 b3 b4:Int)(E:Nat)(b7:Int)(w:World):Prop:=callE P bp #[kT (kE E),hY 1,hY 1,hV true] (λe g=>∃O,e= hQ (hV O)/\br (!O) (∃W,g.cell? (hZ E 0)=some (hY W)/\∃I,g.cell? (hZ E 1)=some (hY I)/\∃V,g.cell? (hZ E 2)=some (hY V)/\∃a6,g.cell? (hZ E 3)=some (hX a6)/\∃U,g.cell? (hZ E 4)=some (.int .u8 U)/\stV g (hZ y 0) (hY W) λc2=>stV c2 (hZ y 1) (hY I) λc1=>stV c1 (hZ y 2) (hY V) λb6=>stV b6 (hZ y 3) (hX a6) λb9=>stV b9 (hZ y 4) (.int .u8 U) λb8=>k8 R a7 y (i64.wrap (b5+b7)) b3 b4 b8) (k8 R a7 y b5 b3 b4 g)) w
def bl2 (R:EP)(Xa:Nat->Nat->Int->Int->Int->Nat->Int->Int->WP)(V I:Nat)(U O E:Int)(g:Nat)(y a7:Int)(w:World):Prop:=br (decide (a7<3)) (callE P bp #[kT (kE g),hY 1,hY 1,hV false] (λe a6=>∃W,e= hQ (hV W)/\br W (k5 R Xa V I U O E g y a7 a6) (k6 R V I U O E g y a6)) w) (k6 R V I U O E g y w)
def l2 (R:EP)(W O:Nat)(V U I:Int)(E:Nat)(g y:Int)(w:World):Prop:=∀X:Nat->Nat->Int->Int->Int->Nat->Int->Int->WP,(∀W O V U I E g y w,bl2 R X W O V U I E g y w->X W O V U I E g y w)->X W O V U I E g y w
def k3 (R:EP)(b8 g:Nat)(c2 b9 c1:Int)(w:World):Prop:=callE P bp #[kT (kE g),hY 1,hY 1,hV true] (λe E=>∃U,e= hQ (hV U)/\br (!U) (False) (∃O,E.cell? (hZ g 0)=some (hY O)/\∃I,E.cell? (hZ g 1)=some (hY I)/\∃W,E.cell? (hZ g 2)=some (hY W)/\∃a6,E.cell? (hZ g 3)=some (hX a6)/\∃V,E.cell? (hZ g 4)=some (.int .u8 V)/\box E #[hY 0,hY 0,hY 0,hX (hP #[]),.int .u8 0] aW λy b3=>stV b3 (hZ y 0) (hY O) λb5=>stV b5 (hZ y 1) (hY I) λb4=>stV b4 (hZ y 2) (hY W) λb6=>stV b6 (hZ y 3) (hX a6) λa7=>stV a7 (hZ y 4) (.int .u8 V) λb7=>l2 R b8 g (i64.wrap (c2+1)) b9 c1 y 0 0 b7)) w
def k7 (R:EP)(a7:Nat->Nat->Int->Int->Int->WP)(V y:Nat)(U O:Int)(E g:Int)(a6:Bool)(w:World):Prop:=br a6 (∃I,w.cell? (hZ y 1)=some (hY I)/\stV w (hZ y 1) (hY (i64.wrap (E+1))) λW=>k3 R V y (i64.wrap (U+(i64.wrap ((i64.wrap (E+1)) - I)))) g O W) (br ((decide (g<48))||(decide (57<g))) (False) (k9 R a7 V y U O E g w))
def bl3 (R:EP)(W:Nat->Nat->Int->Int->Int->WP)(V E:Nat)(U O g:Int)(w:World):Prop:=∃I,w.cell? (hZ E 3)=some (hX I)/\br (decide (g >= (I.size:Int))) (False) (∃y,w.cell? (hZ E 3)=some (hX y)/\0<=g/\g<(y.size:Int)/\k7 R W V E U O g (bt y g) (((bt y g)==46)||((bt y g)==41)) w)
def l3 (R:EP)(O E:Nat)(I y g:Int)(w:World):Prop:=∀X:Nat->Nat->Int->Int->Int->WP,(∀O E I y g w,bl3 R X O E I y g w->X O E I y g w)->X O E I y g w
def k4 (R:EP)(U y:Nat)(O I:Int)(E:Bool)(w:World):Prop:=br E (∃g,w.cell? (hZ y 1)=some (hY g)/\l3 R U y O I g w) (R (hQ (hV false)) w)
def k2 (R:EP)(I g:Nat)(E U:Int)(y O:Int)(a6:Bool)(w:World):Prop:=br a6 (callE P fT #[kT (kE g),.int .u8 U] (λe W=>∃V,e= hQ (hV V)/\k3 R I g (i64.wrap (E+1)) U y W) w) (br (O==48) (k4 R I g E y true w) (br (O==49) (k4 R I g E y true w) (br (O==50) (k4 R I g E y true w) (br (O==51) (k4 R I g E y true w) (br (O==52) (k4 R I g E y true w) (br (O==53) (k4 R I g E y true w) (br (O==54) (k4 R I g E y true w) (br (O==55) (k4 R I g E y true w) (br (O==56) (k4 R I g E y true w) (k4 R I g E y (O==57) w))))))))))
def k1 (R:EP)(O y:Nat)(I:Int)(w:World):Prop:=callE P i6 #[kT (kE y)] (λe E=>∃g,e= hQ (.int .u8 g)/\br (g==45) (k2 R O y I g 0 g true E) (br (g==42) (k2 R O y I g 0 g true E) (k2 R O y I g 0 g (g==43) E))) w
def bl1 (R:EP)(V:Nat->Nat->Int->Int->WP)(E g:Nat)(y U:Int)(w:World):Prop:=br (decide (U<3)) (callE P bp #[kT (kE g),hY 1,hY 1,hV false] (λe I=>∃O,e= hQ (hV O)/\br (!O) (k1 R E g y I) (V E g (i64.wrap (y+1)) (i64.wrap (U+1)) I)) w) (k1 R E g y w)
def l1 (R:EP)(g E:Nat)(y I:Int)(w:World):Prop:=∀X:Nat->Nat->Int->Int->WP,(∀g E y I w,bl1 R X g E y I w->X g E y I w)->X g E y I w
end am
def am (R:EP)(b6 b7:OA)(w:World):Prop:=box w #[kT b6] ah λb1 g=>aA b7 λa3=>∃I,g.cell? (a3.add 0)=some (hY I)/\∃V,g.cell? (a3.add 1)=some (hY V)/\∃E,g.cell? (a3.add 2)=some (hY E)/\∃O,g.cell? (a3.add 3)=some (hX O)/\∃U,g.cell? (a3.add 4)=some (.int .u8 U)/\box g #[hY 0,hY 0,hY 0,hX (hP #[]),.int .u8 0] aW λy b3=>stV b3 (hZ y 0) (hY I) λa6=>stV a6 (hZ y 1) (hY V) λW=>stV W (hZ y 2) (hY E) λa7=>stV a7 (hZ y 3) (hX O) λb4=>stV b4 (hZ y 4) (.int .u8 U) λb5=>am.l1 R b1 y 0 0 b5
theorem am.sound {R x0 x1 w}(h:am R x0 x1 w):callE P bN #[kT x0,kT x1] R w:=
 aG [(173,.lp [46,106,127,147] (am.bl1 R) λy=> []),(61,.mk [46,106,127] (am.k1 R)),(6909,.mk [46,106,127,168,187,628,640] (am.k2 R)),(31485,.mk [46,106,127,187,800] (am.k4 R)),(178941,.lp [46,106,127,187,207] (am.bl3 R) λg=> [(40,.no),(108,.mk [46,106,127,187,207,228,1380] (am.k7 R g)),(348,.no),(124,.mk [46,106,127,187,207,228] (am.k9 R g)),(700,.no)]),(1021,.mk [46,106,127,168,187] (am.k3 R)),(5629,.no),(90109,.lp [46,106,127,168,187,246,267,287] (am.bl2 R) λXa=> [(3,.mk [46,106,127,168,187,246,267,287] (am.k5 R Xa))]),(32765,.mk [46,106,127,168,187,246,267] (am.k6 R)),(65533,.mk [46,106,127,168,187] (am.k8 R)),(262141,.mk [46,106,127,168,187,306] (am.k10 R)),(917501,.mk [46,106,127,168,187,306,2720] (am.k11 R)),(6684669,.mk [46,106,127,168,187,306,3160] (am.k12 R)),(10878973,.no),(524285,.mk [46,106,127,306] (am.k13 R)),(786429,.dr (.pure 1 (.load 0 (.two 2 (.pure 3 (.pure 4 (.two 5 (.one 6 (.one 7 .done)) 6 (.one 5 (.one 7 .done))))) 6 (.one 2 (.pure 3 (.pure 4 (.one 5 (.one 7 .done))))))))),(1048573,.mk [46,106,306,366] (am.k14 R))] Tryz.func199 Tryz.call199 h
def tO (R:EP)(e9:OA)(c8 d2 d0:Int)(d1:BA)(c9:Int)(w:World):Prop:=box w #[hY c8,hY d2,hY d0,hX d1,.int .u8 c9] aW λb1 f0=>box f0 #[hY 0,hY 0,hY 0,hX (hP #[]),.int .u8 0] aW λg O=>∃c2,O.cell? (hZ b1 0)=some (hY c2)/\∃c5,O.cell? (hZ b1 1)=some (hY c5)/\∃c1,O.cell? (hZ b1 2)=some (hY c1)/\∃c3,O.cell? (hZ b1 3)=some (hX c3)/\∃c4,O.cell? (hZ b1 4)=some (.int .u8 c4)/\box O #[hY 0,hY 0,hY 0,hX (hP #[]),.int .u8 0] aW λI e0=>stV e0 (hZ I 0) (hY c2) λe4=>stV e4 (hZ I 1) (hY c5) λe1=>stV e1 (hZ I 2) (hY c1) λe7=>stV e7 (hZ I 3) (hX c3) λe3=>stV e3 (hZ I 4) (.int .u8 c4) λe5=>callE P gr #[kT e9,kT (kE I)] (λe E=>∃b6,e= hQ (hV b6)/\br b6 (False) (∃b9,E.cell? (hZ b1 0)=some (hY b9)/\∃a7,E.cell? (hZ b1 1)=some (hY a7)/\∃V,E.cell? (hZ b1 2)=some (hY V)/\∃b7,E.cell? (hZ b1 3)=some (hX b7)/\∃b8,E.cell? (hZ b1 4)=some (.int .u8 b8)/\stV E (hZ g 0) (hY b9) λe8=>stV e8 (hZ g 1) (hY a7) λe2=>stV e2 (hZ g 2) (hY V) λd3=>stV d3 (hZ g 3) (hX b7) λe6=>stV e6 (hZ g 4) (.int .u8 b8) λy=>∃U,y.cell? (hZ g 0)=some (hY U)/\∃a6,y.cell? (hZ g 1)=some (hY a6)/\∃W,y.cell? (hZ g 2)=some (hY W)/\∃b5,y.cell? (hZ g 3)=some (hX b5)/\∃b4,y.cell? (hZ g 4)=some (.int .u8 b4)/\R (hQ (.tuple #[.agg #[hY U,hY a6,hY W,hX b5,.int .u8 b4],hV false])) y)) e5
theorem tO.sound {R x0 x1_0 x1_1 x1_2 x1_3 x1_4 w}(h:tO R x0 x1_0 x1_1 x1_2 x1_3 x1_4 w):callE P mg #[kT x0,.agg #[hY x1_0,hY x1_1,hY x1_2,hX x1_3,.int .u8 x1_4]] R w:=
 aG [(43,.no)] Tryz.func146 Tryz.call146 h
def jO (R:EP)(W:OA)(w:World):Prop:=tk w λg=>aA W λa2=>aA W λa3=>∃O U a7,g.cell? (a2.add 4)=some (hT O U a7)/\∃b4 y b3,g.cell? (a3.add 4)=some (hT b4 y b3)/\0<=(i64.wrap ((y:Int) - 1))/\(i64.wrap ((y:Int) - 1))<(U:Int)/\aA O λb5=>∃(V:Value),g.cell? (b5.add (Int.toNat (i64.wrap ((y:Int) - 1))*4))=some V/\∃E I,(∀w,(Instr.typeAssert V bO ar true).run P w= .ok (.tuple #[kT E,hV I]) w)/\br I (R (hQ (kT E)) g) (R (hQ (kT none)) g)
theorem jO.sound {R x0 w}(h:jO R x0 w):callE P eL #[kT x0] R w:=
 aG [(9,.dr (rpN [0,3,6,12,15,18,10,22,24,27,30,33,37,39,42,45,48,51,54]))] Tryz.func149 Tryz.call149 h
def gv (R:EP)(c2 c1:OA)(w:World):Prop:=aA c1 λa1=>∃U,w.cell? (a1.add 0)=some (hY U)/\∃I,w.cell? (a1.add 1)=some (hY I)/\∃E,w.cell? (a1.add 2)=some (hY E)/\∃O,w.cell? (a1.add 3)=some (hX O)/\∃V,w.cell? (a1.add 4)=some (.int .u8 V)/\box w #[hY 0,hY 0,hY 0,hX (hP #[]),.int .u8 0] aW λg b9=>stV b9 (hZ g 0) (hY U) λb8=>stV b8 (hZ g 1) (hY I) λb4=>stV b4 (hZ g 2) (hY E) λa7=>stV a7 (hZ g 3) (hX O) λW=>stV W (hZ g 4) (.int .u8 V) λb3=>callE P bp #[kT (kE g),hY 0,hY 3,hV false] (λe b6=>∃a6,e= hQ (hV a6)/\callE P i6 #[kT (kE g)] (λe b5=>∃y,e= hQ (.int .u8 y)/\br (y !=60) (R (hQ (hV false)) b5) (False)) b6) b3
theorem gv.sound {R x0 x1 w}(h:gv R x0 x1 w):callE P gr #[kT x0,kT x1] R w:=
 aG [(237,.no),(2685,.no),(3709,.no),(509,.no)] Tryz.func200 Tryz.call200 h
namespace cu
def k1 (R:EP)(b9 c1:OA)(y:Nat)(c2:Int)(w:World):Prop:=callE P bp #[kT (kE y),hY 1,hY 1,hV true] (λe I=>∃V,e= hQ (hV V)/\br (!V) (R (hQ (hV false)) I) (aA c1 λb5=>stV I (b5.add 0) (hY c2) λg=>∃U,g.cell? (hZ y 0)=some (hY U)/\∃O,g.cell? (hZ y 1)=some (hY O)/\∃a6,g.cell? (hZ y 2)=some (hY a6)/\∃a7,g.cell? (hZ y 3)=some (hX a7)/\∃W,g.cell? (hZ y 4)=some (.int .u8 W)/\aA b9 λE=>stV g (E.add 0) (hY U) λb4=>stV b4 (E.add 1) (hY O) λb7=>stV b7 (E.add 2) (hY a6) λb6=>stV b6 (E.add 3) (hX a7) λb8=>stV b8 (E.add 4) (.int .u8 W) λb3=>R (hQ (hV true)) b3)) w
def bl1 (R:EP)(Xa:OA->OA->Nat->Int->WP)(E I:OA)(g:Nat)(y:Int)(w:World):Prop:=br (decide (y<6)) (callE P fT #[kT (kE g),.int .u8 35] (λe U=>∃O,e= hQ (hV O)/\br O (Xa E I g (i64.wrap (y+1)) U) (k1 R E I g y U)) w) (k1 R E I g y w)
def l1 (R:EP)(I E:OA)(g:Nat)(y:Int)(w:World):Prop:=∀X:OA->OA->Nat->Int->WP,(∀I E g y w,bl1 R X I E g y w->X I E g y w)->X I E g y w
end cu
def cu (R:EP)(V c2:OA)(w:World):Prop:=aA V λa1=>∃W,w.cell? (a1.add 0)=some (hY W)/\∃O,w.cell? (a1.add 1)=some (hY O)/\∃I,w.cell? (a1.add 2)=some (hY I)/\∃U,w.cell? (a1.add 3)=some (hX U)/\∃a6,w.cell? (a1.add 4)=some (.int .u8 a6)/\box w #[hY 0,hY 0,hY 0,hX (hP #[]),.int .u8 0] aW λg c1=>stV c1 (hZ g 0) (hY W) λb9=>stV b9 (hZ g 1) (hY O) λb6=>stV b6 (hZ g 2) (hY I) λb4=>stV b4 (hZ g 3) (hX U) λa7=>stV a7 (hZ g 4) (.int .u8 a6) λb5=>callE P bp #[kT (kE g),hY 0,hY 3,hV false] (λe b8=>∃b3,e= hQ (hV b3)/\callE P fT #[kT (kE g),.int .u8 35] (λe y=>∃E,e= hQ (hV E)/\br (!E) (R (hQ (hV false)) y) (cu.l1 R V c2 g 1 y)) b8) b5
theorem cu.sound {R x0 x1 w}(h:cu R x0 x1 w):callE P jx #[kT x0,kT x1] R w:=
 aG [(159,.lp [2,22,106,127] (cu.bl1 R) λXa=> []),(127,.mk [2,22,106,127] (cu.k1 R))] Tryz.func185 Tryz.call185 h
namespace cJ
def k2 (R:EP)(U:OA)(g c9:Nat)(e6 e2:BA)(w:World):Prop:=tk w λO=>aA U λb3=>aA U λb8=>∃c2,O.cell? (b3.add 3)=some (hY c2)/\∃a7,O.cell? (b8.add 3)=some (hY a7)/\box O #[hY 0,hY 0] aH λE W=>SameC O W (b8.add 3) 1/\SameC O W (b3.add 3) 1/\stV W (hZ E 0) (hY c2) λd1=>stV d1 (hZ E 1) (hY a7) λe5=>tk e5 λy=>∃a6,y.cell? (hZ E 0)=some (hY a6)/\∃b9,y.cell? (hZ E 1)=some (hY b9)/\∃b6,y.cell? (hZ c9 0)=some (hY b6)/\∃c5,y.cell? (hZ E 0)=some (hY c5)/\∃b7,y.cell? (hZ E 1)=some (hY b7)/\callE P fy #[kT U,.agg #[hY c5,hY b7],hX e6] (λe V=>∃c3,e= hQ (kT c3)/\SameC y V (hZ c9 0) 1/\SameC y V (hZ E 0) 2/\box V #[hY a6,hY b9,hY b6,kT c3,hX e2] qH λe3 d0=>callE P dS #[kT U,.iface gH (kT (kE e3))] (λe e4=>e= hQ (.tuple #[])/\stV e4 (hZ g 0) (hY 0) λd3=>stV d3 (hZ g 1) (hY 0) λd2=>stV d2 (hZ g 2) (hY 0) λe1=>stV e1 (hZ g 3) (hX (hP #[])) λe0=>stV e0 (hZ g 4) (.int .u8 0) λI=>∃b5,I.cell? (hZ g 0)=some (hY b5)/\∃c1,I.cell? (hZ g 1)=some (hY c1)/\∃c4,I.cell? (hZ g 2)=some (hY c4)/\∃b4,I.cell? (hZ g 3)=some (hX b4)/\∃c8,I.cell? (hZ g 4)=some (.int .u8 c8)/\R (hQ (.tuple #[.agg #[hY b5,hY c1,hY c4,hX b4,.int .u8 c8],hV true])) I) d0) y
def k1 (R:EP)(E:OA)(U W:Nat)(V:BA)(w:World):Prop:=aA E λO=>∃y,w.cell? O=some (kT y)/\aA y λI=>∃g,w.cell? I=some (hV g)/\br g (False) (k2 R E U W V (hP #[]) w)
end cJ
def cJ (R:EP)(g1:OA)(d3 e3 e1:Int)(e2:BA)(e0:Int)(w:World):Prop:=box w #[hY d3,hY e3,hY e1,hX e2,.int .u8 e0] aW λb1 g2=>box g2 #[hY 0,hY 0,hY 0,hX (hP #[]),.int .u8 0] aW λg O=>∃c9,O.cell? (hZ b1 0)=some (hY c9)/\∃d2,O.cell? (hZ b1 1)=some (hY d2)/\∃c8,O.cell? (hZ b1 2)=some (hY c8)/\∃d0,O.cell? (hZ b1 3)=some (hX d0)/\∃d1,O.cell? (hZ b1 4)=some (.int .u8 d1)/\box O #[hY 0,hY 0,hY 0,hX (hP #[]),.int .u8 0] aW λE e9=>stV e9 (hZ E 0) (hY c9) λf2=>stV f2 (hZ E 1) (hY d2) λf0=>stV f0 (hZ E 2) (hY c8) λf4=>stV f4 (hZ E 3) (hX d0) λf1=>stV f1 (hZ E 4) (.int .u8 d1) λf3=>box f3 #[hY 0] ba λb9 f6=>callE P jx #[kT (kE E),kT (kE b9)] (λe y=>∃c4,e= hQ (hV c4)/\br c4 (callE P im #[kT (kE E)] (λe e6=>∃c3,e= hQ (hX c3)/\callE P fM #[hX c3] (λe f5=>∃V,e= hQ (hX V)/\callE P mE #[hX V,hX (hP #[35])] (λe e5=>∃U,e= hQ (hX U)/\callE P fM #[hX U] (λe e8=>∃W,e= hQ (hX W)/\br ((!(U.toList==W.toList))||(U.toList==(hP #[]).toList)) (False) (cJ.k1 R g1 g b9 V e8)) e5) f5) e6) y) (∃a6,y.cell? (hZ b1 0)=some (hY a6)/\∃b4,y.cell? (hZ b1 1)=some (hY b4)/\∃a7,y.cell? (hZ b1 2)=some (hY a7)/\∃b8,y.cell? (hZ b1 3)=some (hX b8)/\∃b7,y.cell? (hZ b1 4)=some (.int .u8 b7)/\stV y (hZ g 0) (hY a6) λe4=>stV e4 (hZ g 1) (hY b4) λg0=>stV g0 (hZ g 2) (hY a7) λf7=>stV f7 (hZ g 3) (hX b8) λe7=>stV e7 (hZ g 4) (.int .u8 b7) λI=>∃c2,I.cell? (hZ g 0)=some (hY c2)/\∃c1,I.cell? (hZ g 1)=some (hY c1)/\∃c5,I.cell? (hZ g 2)=some (hY c5)/\∃b6,I.cell? (hZ g 3)=some (hX b6)/\∃b5,I.cell? (hZ g 4)=some (.int .u8 b5)/\R (hQ (.tuple #[.agg #[hY c2,hY c1,hY c5,hX b6,.int .u8 b5],hV false])) I)) f6
theorem cJ.sound {R x0 x1_0 x1_1 x1_2 x1_3 x1_4 w}(h:cJ R x0 x1_0 x1_1 x1_2 x1_3 x1_4 w):callE P fF #[kT x0,.agg #[hY x1_0,hY x1_1,hY x1_2,hX x1_3,.int .u8 x1_4]] R w:=
 aG [(5847,.no),(983,.mk [2,86,146,161] (cJ.k1 R)),(11223,.no),(4055,.mk [2,86,146,161,201] (cJ.k2 R)),(6103,.dr (rpN [0,3,6,12,15,18,10,22,24,29,32])),(12247,.dr (rpN [0,9,15,21,4,7,13,20,24,29,30,35]))] Tryz.func142 Tryz.call142 h
def wb (R:EP)(W:OA)(e5 e9 e7:Int)(e8:BA)(e6:Int)(w:World):Prop:=box w #[hY e5,hY e9,hY e7,hX e8,.int .u8 e6] aW λb1 g3=>box g3 #[hY 0,hY 0,hY 0,hX (hP #[]),.int .u8 0] aW λg O=>∃e1,O.cell? (hZ b1 0)=some (hY e1)/\∃e4,O.cell? (hZ b1 1)=some (hY e4)/\∃e0,O.cell? (hZ b1 2)=some (hY e0)/\∃e2,O.cell? (hZ b1 3)=some (hX e2)/\∃e3,O.cell? (hZ b1 4)=some (.int .u8 e3)/\callE P Dn #[.agg #[hY e1,hY e4,hY e0,hX e2,.int .u8 e3]] (λe y=>∃d2,e= hQ (hV d2)/\br d2 (tk y λU=>aA W λa13=>aA W λa14=>∃b5,U.cell? (a13.add 3)=some (hY b5)/\∃d0,U.cell? (a14.add 3)=some (hY d0)/\callE P im #[kT (kE b1)] (λe V=>∃c5,e= hQ (hX c5)/\SameC U V (a14.add 3) 1/\SameC U V (a13.add 3) 1/\box V #[hY b5,hY d0,hX c5] ke λf2 f4=>callE P dS #[kT W,.iface cW (kT (kE f2))] (λe f3=>e= hQ (.tuple #[])/\stV f3 (hZ g 0) (hY 0) λg2=>stV g2 (hZ g 1) (hY 0) λg1=>stV g1 (hZ g 2) (hY 0) λf7=>stV f7 (hZ g 3) (hX (hP #[])) λf0=>stV f0 (hZ g 4) (.int .u8 0) λE=>∃d1,E.cell? (hZ g 0)=some (hY d1)/\∃a6,E.cell? (hZ g 1)=some (hY a6)/\∃b8,E.cell? (hZ g 2)=some (hY b8)/\∃b7,E.cell? (hZ g 3)=some (hX b7)/\∃c3,E.cell? (hZ g 4)=some (.int .u8 c3)/\R (hQ (.tuple #[.agg #[hY d1,hY a6,hY b8,hX b7,.int .u8 c3],hV true])) E) f4) U) (∃c1,y.cell? (hZ b1 0)=some (hY c1)/\∃d3,y.cell? (hZ b1 1)=some (hY d3)/\∃c2,y.cell? (hZ b1 2)=some (hY c2)/\∃c8,y.cell? (hZ b1 3)=some (hX c8)/\∃c9,y.cell? (hZ b1 4)=some (.int .u8 c9)/\stV y (hZ g 0) (hY c1) λf5=>stV f5 (hZ g 1) (hY d3) λg0=>stV g0 (hZ g 2) (hY c2) λf6=>stV f6 (hZ g 3) (hX c8) λf1=>stV f1 (hZ g 4) (.int .u8 c9) λI=>∃b9,I.cell? (hZ g 0)=some (hY b9)/\∃a7,I.cell? (hZ g 1)=some (hY a7)/\∃b6,I.cell? (hZ g 2)=some (hY b6)/\∃c4,I.cell? (hZ g 3)=some (hX c4)/\∃b4,I.cell? (hZ g 4)=some (.int .u8 b4)/\R (hQ (.tuple #[.agg #[hY b9,hY a7,hY b6,hX c4,.int .u8 b4],hV false])) I)) O
theorem wb.sound {R x0 x1_0 x1_1 x1_2 x1_3 x1_4 w}(h:wb R x0 x1_0 x1_1 x1_2 x1_3 x1_4 w):callE P ra #[kT x0,.agg #[hY x1_0,hY x1_1,hY x1_2,hX x1_3,.int .u8 x1_4]] R w:=
 aG [(37,.dr (rpN [0,3,6,9,15,18,21,13,25,27,32,33,38,39,44]))] Tryz.func144 Tryz.call144 h
def oJ (R:EP)(h7:OA)(f1 f5 f3:Int)(f4:BA)(f2:Int)(w:World):Prop:=box w #[hY f1,hY f5,hY f3,hX f4,.int .u8 f2] aW λb1 h8=>box h8 #[hY 0,hY 0,hY 0,hX (hP #[]),.int .u8 0] aW λg V=>∃e7,V.cell? (hZ b1 0)=some (hY e7)/\∃f0,V.cell? (hZ b1 1)=some (hY f0)/\∃e6,V.cell? (hZ b1 2)=some (hY e6)/\∃e8,V.cell? (hZ b1 3)=some (hX e8)/\∃e9,V.cell? (hZ b1 4)=some (.int .u8 e9)/\callE P mF #[.agg #[hY e7,hY f0,hY e6,hX e8,.int .u8 e9]] (λe g5=>∃b4 a6,∃W a7,∃b5 b6,e= hQ (.tuple #[.agg #[hY b4,hY a6,hY W,hX a7,.int .u8 b5],hV b6])/\box g5 #[hY 0,hY 0,hY 0,hX (hP #[]),.int .u8 0] aW λy g7=>stV g7 (hZ y 0) (hY b4) λh5=>stV h5 (hZ y 1) (hY a6) λh1=>stV h1 (hZ y 2) (hY W) λh3=>stV h3 (hZ y 3) (hX a7) λg0=>stV g0 (hZ y 4) (.int .u8 b5) λE=>br b6 (box E #[] nm λf7 g1=>callE P bQ #[kT h7,.iface hU (kT (kE f7))] (λe O=>e= hQ (.tuple #[])/\∃c9,O.cell? (hZ y 0)=some (hY c9)/\∃c2,O.cell? (hZ y 1)=some (hY c2)/\∃b9,O.cell? (hZ y 2)=some (hY b9)/\∃e2,O.cell? (hZ y 3)=some (hX e2)/\∃e3,O.cell? (hZ y 4)=some (.int .u8 e3)/\stV O (hZ g 0) (hY c9) λg4=>stV g4 (hZ g 1) (hY c2) λg3=>stV g3 (hZ g 2) (hY b9) λg6=>stV g6 (hZ g 3) (hX e2) λh4=>stV h4 (hZ g 4) (.int .u8 e3) λU=>∃c5,U.cell? (hZ g 0)=some (hY c5)/\∃e4,U.cell? (hZ g 1)=some (hY e4)/\∃c8,U.cell? (hZ g 2)=some (hY c8)/\∃d3,U.cell? (hZ g 3)=some (hX d3)/\∃e0,U.cell? (hZ g 4)=some (.int .u8 e0)/\R (hQ (.tuple #[.agg #[hY c5,hY e4,hY c8,hX d3,.int .u8 e0],hV true])) U) g1) (∃e1,E.cell? (hZ b1 0)=some (hY e1)/\∃d2,E.cell? (hZ b1 1)=some (hY d2)/\∃d0,E.cell? (hZ b1 2)=some (hY d0)/\∃e5,E.cell? (hZ b1 3)=some (hX e5)/\∃c3,E.cell? (hZ b1 4)=some (.int .u8 c3)/\stV E (hZ g 0) (hY e1) λg2=>stV g2 (hZ g 1) (hY d2) λh6=>stV h6 (hZ g 2) (hY d0) λf6=>stV f6 (hZ g 3) (hX e5) λh2=>stV h2 (hZ g 4) (.int .u8 c3) λI=>∃c1,I.cell? (hZ g 0)=some (hY c1)/\∃b7,I.cell? (hZ g 1)=some (hY b7)/\∃c4,I.cell? (hZ g 2)=some (hY c4)/\∃d1,I.cell? (hZ g 3)=some (hX d1)/\∃b8,I.cell? (hZ g 4)=some (.int .u8 b8)/\R (hQ (.tuple #[.agg #[hY c1,hY b7,hY c4,hX d1,.int .u8 b8],hV false])) I)) V
theorem oJ.sound {R x0 x1_0 x1_1 x1_2 x1_3 x1_4 w}(h:oJ R x0 x1_0 x1_1 x1_2 x1_3 x1_4 w):callE P kD #[kT x0,.agg #[hY x1_0,hY x1_1,hY x1_2,hX x1_3,.int .u8 x1_4]] R w:=
 cF Tryz.func141 Tryz.call141 h
namespace mZ
def bl1 (R:EP)(Xa:Nat->Int->Int->WP)(g:Nat)(O U:Int)(w:World):Prop:=callE P fT #[kT (kE g),.int .u8 O] (λe y=>∃E,e= hQ (hV E)/\br (!E) (br (decide (U >= 3)) (callE P oH #[kT (kE g)] (λe W=>∃I,e= hQ (hV I)/\R (hQ (hV I)) W) y) (R (hQ (hV false)) y)) (callE P iP #[kT (kE g)] (λe V=>e= hQ (.tuple #[])/\Xa g O (i64.wrap (U+1)) V) y)) w
def l1 (R:EP)(y:Nat)(E g:Int)(w:World):Prop:=∀X:Nat->Int->Int->WP,(∀y E g w,bl1 R X y E g w->X y E g w)->X y E g w
def k1 (R:EP)(y:Nat)(E:Int)(g:Bool)(w:World):Prop:=br g (l1 R y E 0 w) (R (hQ (hV false)) w)
end mZ
def mZ (R:EP)(b3 b6 a7:Int)(b5:BA)(b4:Int)(w:World):Prop:=box w #[hY b3,hY b6,hY a7,hX b5,.int .u8 b4] aW λb1 E=>∃V,E.cell? (hZ b1 0)=some (hY V)/\∃W,E.cell? (hZ b1 1)=some (hY W)/\∃U,E.cell? (hZ b1 2)=some (hY U)/\∃a6,E.cell? (hZ b1 3)=some (hX a6)/\∃O,E.cell? (hZ b1 4)=some (.int .u8 O)/\box E #[hY 0,hY 0,hY 0,hX (hP #[]),.int .u8 0] aW λg c8=>stV c8 (hZ g 0) (hY V) λc2=>stV c2 (hZ g 1) (hY W) λb9=>stV b9 (hZ g 2) (hY U) λc3=>stV c3 (hZ g 3) (hX a6) λc1=>stV c1 (hZ g 4) (.int .u8 O) λc5=>callE P bp #[kT (kE g),hY 0,hY 3,hV false] (λe c4=>∃b7,e= hQ (hV b7)/\callE P i6 #[kT (kE g)] (λe I=>∃y,e= hQ (.int .u8 y)/\br (y==45) (mZ.k1 R g y true I) (br (y==95) (mZ.k1 R g y true I) (mZ.k1 R g y (y==42) I))) c4) c5
theorem mZ.sound {R x0_0 x0_1 x0_2 x0_3 x0_4 w}(h:mZ R x0_0 x0_1 x0_2 x0_3 x0_4 w):callE P Dn #[.agg #[hY x0_0,hY x0_1,hY x0_2,hX x0_3,.int .u8 x0_4]] R w:=
 aG [(439,.mk [66,88,200] (mZ.k1 R)),(5303,.lp [66,88,107] (mZ.bl1 R) λXa=> [])] Tryz.func197 Tryz.call197 h
def pC (R:EP)(e7 f0 e6:Int)(e9:BA)(e8:Int)(w:World):Prop:=box w #[hY e7,hY f0,hY e6,hX e9,.int .u8 e8] aW λb1 h3=>box h3 #[hY 0,hY 0,hY 0,hX (hP #[]),.int .u8 0] aW λg V=>∃e2,V.cell? (hZ b1 0)=some (hY e2)/\∃e5,V.cell? (hZ b1 1)=some (hY e5)/\∃e1,V.cell? (hZ b1 2)=some (hY e1)/\∃e3,V.cell? (hZ b1 3)=some (hX e3)/\∃e4,V.cell? (hZ b1 4)=some (.int .u8 e4)/\box V #[hY 0,hY 0,hY 0,hX (hP #[]),.int .u8 0] aW λy f6=>stV f6 (hZ y 0) (hY e2) λg2=>stV g2 (hZ y 1) (hY e5) λf7=>stV f7 (hZ y 2) (hY e1) λg7=>stV g7 (hZ y 3) (hX e3) λg1=>stV g1 (hZ y 4) (.int .u8 e4) λg5=>callE P bp #[kT (kE y),hY 0,hY 3,hV false] (λe h1=>∃g0,e= hQ (hV g0)/\callE P fT #[kT (kE y),.int .u8 62] (λe E=>∃d2,e= hQ (hV d2)/\br (!d2) (∃a6,E.cell? (hZ b1 0)=some (hY a6)/\∃c4,E.cell? (hZ b1 1)=some (hY c4)/\∃c5,E.cell? (hZ b1 2)=some (hY c5)/\∃b7,E.cell? (hZ b1 3)=some (hX b7)/\∃b4,E.cell? (hZ b1 4)=some (.int .u8 b4)/\stV E (hZ g 0) (hY a6) λf1=>stV f1 (hZ g 1) (hY c4) λg6=>stV g6 (hZ g 2) (hY c5) λf5=>stV f5 (hZ g 3) (hX b7) λf4=>stV f4 (hZ g 4) (.int .u8 b4) λU=>∃b6,U.cell? (hZ g 0)=some (hY b6)/\∃c3,U.cell? (hZ g 1)=some (hY c3)/\∃c1,U.cell? (hZ g 2)=some (hY c1)/\∃d3,U.cell? (hZ g 3)=some (hX d3)/\∃c2,U.cell? (hZ g 4)=some (.int .u8 c2)/\R (hQ (.tuple #[.agg #[hY b6,hY c3,hY c1,hX d3,.int .u8 c2],hV false])) U) (callE P bp #[kT (kE y),hY 0,hY 1,hV true] (λe O=>∃g3,e= hQ (hV g3)/\∃d1,O.cell? (hZ y 0)=some (hY d1)/\∃d0,O.cell? (hZ y 1)=some (hY d0)/\∃c8,O.cell? (hZ y 2)=some (hY c8)/\∃e0,O.cell? (hZ y 3)=some (hX e0)/\∃b8,O.cell? (hZ y 4)=some (.int .u8 b8)/\stV O (hZ g 0) (hY d1) λf3=>stV f3 (hZ g 1) (hY d0) λh2=>stV h2 (hZ g 2) (hY c8) λf2=>stV f2 (hZ g 3) (hX e0) λg4=>stV g4 (hZ g 4) (.int .u8 b8) λI=>∃b5,I.cell? (hZ g 0)=some (hY b5)/\∃W,I.cell? (hZ g 1)=some (hY W)/\∃b9,I.cell? (hZ g 2)=some (hY b9)/\∃c9,I.cell? (hZ g 3)=some (hX c9)/\∃a7,I.cell? (hZ g 4)=some (.int .u8 a7)/\R (hQ (.tuple #[.agg #[hY b5,hY W,hY b9,hX c9,.int .u8 a7],hV true])) I) E)) h1) g5
theorem pC.sound {R x0_0 x0_1 x0_2 x0_3 x0_4 w}(h:pC R x0_0 x0_1 x0_2 x0_3 x0_4 w):callE P mF #[.agg #[hY x0_0,hY x0_1,hY x0_2,hX x0_3,.int .u8 x0_4]] R w:=
 cF Tryz.func184 Tryz.call184 h
def fc (R:EP)(g:OA)(c8:Value)(w:World):Prop:=aA g λa1=>∃c5,w.cell? (a1.add 5)=some (hY c5)/\callE P bm #[kT g,hY (i64.wrap (c5+1))] (λe c4=>e= hQ (.tuple #[])/\aA g λa5=>∃b7 b3 b9,c4.cell? (a5.add 4)=some (hT b7 b3 b9)/\∃c3 b8,∃c1 c9,(Instr.buildSlice gk 1 #[(0,.agg #[.nilIface,hT none 0 0,hY 0,hY 0])]).run P c4= .ok (hT c3 b8 c1) c9/\∃b5 a7,∃c2 b6,(Builtin.append_ #[gk,gk] gk #[hT b7 b3 b9,hT c3 b8 c1]).run P c9= .ok (hT b5 a7 c2) b6/\aA g λa11=>stV b6 ((a11.add 4).add 0) (hT b5 a7 c2) λe2=>tk e2 λE=>aA g λa14=>aA g λe0=>∃O U d0,E.cell? (a14.add 4)=some (hT O U d0)/\∃d2 y d1,E.cell? (e0.add 4)=some (hT d2 y d1)/\0<=(i64.wrap ((y:Int) - 1))/\(i64.wrap ((y:Int) - 1))<(U:Int)/\aA O λI=>DP c8 (stV E ((I.add (Int.toNat (i64.wrap ((y:Int) - 1))*4)).add 0) c8 λV=>aA g λe3=>∃W,V.cell? (e3.add 3)=some (hY W)/\stV V (((I.add (Int.toNat (i64.wrap ((y:Int) - 1))*4)).add 2).add 0) (hY W) λa6=>aA g λd3=>∃b4,a6.cell? (d3.add 3)=some (hY b4)/\stV a6 ((((I.add (Int.toNat (i64.wrap ((y:Int) - 1))*4)).add 2).add 1).add 0) (hY b4) λe1=>R (hQ (.tuple #[])) e1)) w
theorem fc.sound {R x0 x1 w}(h:fc R x0 x1 w):callE P bQ #[kT x0,x1] R w:=
 aG [(11,.dr (rpN [0,3,6,12,15,18,10,22,24,27,30,33]))] Tryz.func78 Tryz.call78 h
def jg (R:EP)(W:OA)(w:World):Prop:=tk w λy=>aA W λa2=>aA W λa3=>∃E O a7,y.cell? (a2.add 4)=some (hT E O a7)/\∃b4 g b3,y.cell? (a3.add 4)=some (hT b4 g b3)/\0<=(i64.wrap ((g:Int) - 1))/\(i64.wrap ((g:Int) - 1))<(O:Int)/\aA E λb5=>∃I V U,y.cell? ((b5.add (Int.toNat (i64.wrap ((g:Int) - 1))*4)).add 1)=some (hT I V U)/\R (hQ (hT I V U)) y
theorem jg.sound {R x0 w}(h:jg R x0 w):callE P iY #[kT x0] R w:=
 aG [(5,.dr (rpN [0,3,6,12,15,18,10,22,24,27,30,33]))] Tryz.func420 Tryz.call420 h
end Go.Proofs.YtendaipfdnhnaaaGreatDoor

namespace Go.Proofs.YtendaipfdnhnaaaGreatDoor
open Go.IntWalk
variable {P:Program} {σ:Out} {w:World} {L L':List ai} {R:Ending->World->Prop}

def Sl (sz:Nat)(e:TypeId)(q:Option Addr)(n c:Nat)(vs:List Value)(M:List ai):Prop:=
 vs.length=n*sz/\n<=c/\((q=none/\n=0/\c=0/\M= [])\/ ∃b sp,q=kE b/\M= [(b,cel (vs++sp) e)]/\(vs++sp).length=c*sz)
theorem Sl.nil (sz:Nat)(e:TypeId):Sl sz e none 0 0 [] []:=⟨by simp,lE1 _,.inl ⟨rfl,rfl,rfl,rfl⟩⟩

structure Row (P:Program) (t e:TypeId) (sz bytes:Nat) where
 i:TypeInfo
 z:Value
 ht:P.underlying t=some (.slice e)
 hi:P.info? e=some i
 hz:i.zero=some z
 hs:i.size=sz
 hb:i.bytes=bytes
 hc:z.cells.size=sz
 pos:0<sz

theorem rH {b:Nat}{cs:List Value}{e:TypeId}(h:Sat σ w ((b,cel cs e)::L)): ∀(o:Nat) (vs:List Value),o+vs.length<=cs.length->
 Sat σ (w.setCells b o vs) ((b,cel (cs.take o++vs++cs.drop (o+vs.length)) e)::L):=by
 intro o vs
 induction vs generalizing o w cs with
 |nil=>intro _;simpa[World.setCells] using h
 |cons v vs U=>
  intro I;simp only[lF0] at I;have E:=h.set (k:=0) (i:=o) v rfl
  have g:=U (w:=w.setCell (hZ b o) v) (cs:=cs.set o v) E (o+1) (by simp;omega)
  simp only[World.setCells];have O:(cs.set o v).take (o+1)=cs.take o++ [v]:=by
   rw[List.take_set,lB1 (by omega),lR1 _ _ (by simp;omega)];simp;rw[show o - min o cs.length=0 by omega];rfl
  have y:(cs.set o v).drop (o+1+vs.length)=cs.drop (o+(vs.length+1)):=by
   rw[List.drop_set_of_lt (by omega)];congr 1;omega
  rw[O,y] at g
  simpa using g

theorem Addr.add_zero_lit (b j:Nat):Addr.add (hZ b 0) j=⟨b,j,none⟩:=by
 simp[Addr.add];omega
theorem wh {sz:Nat}{e:TypeId}{q:Option Addr}{n c:Nat}{vs:List Value}{M:List ai}(O:Sl sz e q n c vs M)(h:Sat σ w (M++L)):
 (Builtin.firstCells sz n (hT q n c)).run P w= .ok vs.toArray w:=by
 obtain⟨E,U,g|⟨b,sp,g,I,V⟩⟩:=O
 ·obtain⟨rfl,rfl,rfl,rfl⟩:=g;have:vs= []:=lF1 (by simpa using E);subst this;exact run_firstCells_none w sz 0 0 0
 ·subst g;subst I;refine run_firstCells_some w sz n _ n c vs E λj u y=>?_
  rw[show (Addr.add (hZ b 0) j)=⟨b,j,none⟩ from Addr.add_zero_lit b j];refine h.ld (lZ1 ..) ?_;rw[lM0 (lJ0.1 y).1];exact y

theorem Sat.app {t tx ty e:TypeId}{sz bytes:Nat}(r:Row P t e sz bytes){q:Option Addr}{n c:Nat}{vs:List Value}{M:List ai}(I:Sl sz e q n c vs M)(h:Sat σ w (M++L)){x:Value}{m:Nat}{g:List Value}(hs:Src P sz tx x m g w)(c9:0<m\/q≠none)(hb:(n+m)*bytes<=140737488355328)(d2:n+m<4611686018427387904):
 ∃V U a7 a6,(Builtin.append_ #[t,tx] ty #[hT q n c,x]).run P w= .ok (hT V (n+m) U) a7/\Sl sz e V (n+m) U (vs++g) a6/\Sat σ a7 (a6++L)/\V≠none/\c<=U:=by
 have b9:=wh (P:=P) I h.drew;obtain⟨y,d1,I⟩:=I;obtain⟨i,z,ht,hi,hz,b8,b7,c1,d0⟩:=r;subst b8;have E:=hs.newsLen
 by_cases O:n+m<=c
 ·rcases I with ⟨rfl,rfl,rfl,rfl⟩|⟨b,sp,rfl,rfl,c3⟩
  ·exact absurd c9 (by simp;omega)
  ·simp only[lA0] at c3;have b6:(n+m)*i.size<=c*i.size:=lC2 _ O;rw[lR3] at b6;have b4:n*i.size+g.length<=(vs++sp).length:=by rw[lA0,E];omega
   refine⟨_,_,_,[(b,cel (vs++g++sp.drop g.length) e)],run_append_room_src w t tx ty e i ht hi b 0 n c x m g hs O ?_ ?_,⟨?_,O,.inr ⟨b,sp.drop g.length,rfl,rfl,?_⟩⟩,?_,by simp,lE1 _⟩
   ·intro j c2;rw[lO0,h.ld (lZ1 ..) (lH0 (by omega))];rfl
   ·exact λj c2=>h.not_frozen (lZ1 ..)
   ·rw[lA0,y,E,lR3]
   ·rw[lA0,lA0,lJ1,y,E];omega
   ·have:=rH h (n*i.size) g b4;rw[lO0];have c5:(vs++sp).take (n*i.size)=vs:=by rw[<-y,lS4]
    have c8:(vs++sp).drop (n*i.size+g.length)=sp.drop g.length:=by rw[<-y,<-lN5,lD4]
    rw[c5,c8] at this;exact this
 ·have W:c<n+m:=by omega
  have b3:=growslice_fits (need:=n+m) (old:=c) (bytes:=i.bytes) W (by rw[b7];exact hb)
  have b5:=grownCap_ge w (n+m) c e;have hd:Sat σ w.drew L:=h.drew.right;refine⟨_,_,_,[(w.heap.size,cel (vs++g++(Builtin.zeroCells z.cells (grownCap w (n+m) c e - (n+m))).toList) e)],run_append_grow_src w t tx ty e i z ht hi hz q n c vs b9 x m g hs W (by omega) b3,
   ⟨?_,b5,.inr ⟨_,_,rfl,rfl,?_⟩⟩,?_,by simp,by omega⟩
  ·rw[lA0,y,E,lR3]
  ·rw[lA0,lA0,y,E,Array.length_toList,size_zeroCells,c1,<-lR3,<-lR3];congr 1;omega
  ·have:=hd.alc (vs++g++(Builtin.zeroCells z.cells (grownCap w (n+m) c e - (n+m))).toList) e;have c4:YtendaipfdnhnaaaGreatDoor.alc w.drew (vs++g++(Builtin.zeroCells z.cells (grownCap w (n+m) c e - (n+m))).toList).toArray e
    =w.drew.alloc (.cells ((vs++g).toArray++Builtin.zeroCells z.cells (grownCap w (n+m) c e - (n+m))) e):=by
    rw[show (vs++g++(Builtin.zeroCells z.cells (grownCap w (n+m) c e - (n+m))).toList).toArray=(vs++g).toArray++Builtin.zeroCells z.cells (grownCap w (n+m) c e - (n+m)) from by
     apply Array.ext';simp[lD0]]
    rfl
   rw[c4] at this;exact this

theorem Sat.app1 {t ty e:TypeId}{sz bytes:Nat}(r:Row P t e sz bytes){q:Option Addr}{n c:Nat}{vs:List Value}{M:List ai}(c5:Sl sz e q n c vs M)(h:Sat σ w (M++L)){v:Value}(hv:v.cells.size=sz)(b9: ∀u∈v.cells.toList,u.oneCell'=true)(b4:Instr.fill (λi=>some (i*sz,sz)) ((Array.range (1*sz)).map (r.z.cells[· %r.z.cells.size]!)) [(0,v)]=some v.cells)(hb:(n+1)*bytes<=140737488355328)(b8:n+1<4611686018427387904)(c8:sz<=100){K:Option Addr->Nat->Nat->World->Prop}(c4: ∀y g O U,Sl sz e y (n+1) g (vs++v.cells.toList) U->Sat σ O (U++L)->K y (n+1) g O):
 ∃V W a7 E,(Instr.buildSlice t 1 #[(0,v)]).run P w= .ok (hT V W a7) E/\
  ∃y a6 g b3,(Builtin.append_ #[t,t] ty #[hT q n c,hT V W a7]).run P E= .ok (hT y a6 g) b3/\K y a6 g b3:=by
 have b5:=run_buildSlice (P:=P) w t e 1 #[(0,v)] v.cells r.i r.z r.ht r.hi r.hz (by rw[r.hs];omega) (by rw[r.hs];have:=r.pos;omega) (by rw[r.hs];exact b4)
 refine⟨_,_,_,_,b5,?_⟩;have I:=h.alc v.cells.toList e;have c3:YtendaipfdnhnaaaGreatDoor.alc w v.cells.toList.toArray e=w.alloc (.cells v.cells e):=by rw[lE4];rfl
 rw[c3] at I;generalize c9:w.alloc (.cells v.cells e)=E at I⊢;generalize w.heap.size=nb at I⊢;have hs:Src P sz t (hT (kE nb) 1 1) 1 v.cells.toList E:=by
  refine Src.ofSlice E r.ht _ 1 1 _ (by simp[hv]) (λj u c1=>?_) b9;rw[show (Addr.add (hZ nb 0) j)=⟨nb,j,none⟩ from Addr.add_zero_lit nb j];exact I.ld (lZ1 ..) c1
 have b6:Sat σ E (M++((nb,cel v.cells.toList e)::L)):=I.perm lU5.symm
 obtain⟨y,g,O,U,hr,b7,c2,_⟩:=Sat.app r (ty:=ty) c5 b6 hs (.inl (by omega)) hb b8;refine⟨y,n+1,g,O,hr,c4 y g O U b7 ?_⟩;exact c2.sub (List.Sublist.append_left (lT3 ..) _)
theorem Sat.app1S {t ty e:TypeId}{sz bytes:Nat}(r:Row P t e sz bytes){q:Option Addr}{n c:Nat}{vs:List Value}{M:List ai}(c8:Sl sz e q n c vs M)(h:Sat σ w (M++L)){v:Value}(hv:v.cells.size=sz)(c1: ∀u∈v.cells.toList,u.oneCell'=true)(b4:Instr.fill (λi=>some (i*sz,sz)) ((Array.range (1*sz)).map (r.z.cells[· %r.z.cells.size]!)) [(0,v)]=some v.cells)(hb:(n+1)*bytes<=140737488355328)(b8:n+1<4611686018427387904)(c9:sz<=100){K:Option Addr->Nat->Nat->World->Prop}{C:World->Prop}(b9: ∀g X,Sat σ g (X::(M++L))->C g)(c5: ∀E y O U,Sl sz e E (n+1) y (vs++v.cells.toList) U->Sat σ O (U++L)->K E (n+1) y O):
 ∃V W a7 g,(Instr.buildSlice t 1 #[(0,v)]).run P w= .ok (hT V W a7) g/\C g/\
  ∃E a6 y b3,(Builtin.append_ #[t,t] ty #[hT q n c,hT V W a7]).run P g= .ok (hT E a6 y) b3/\K E a6 y b3:=by
 have b5:=run_buildSlice (P:=P) w t e 1 #[(0,v)] v.cells r.i r.z r.ht r.hi r.hz (by rw[r.hs];omega) (by rw[r.hs];have:=r.pos;omega) (by rw[r.hs];exact b4)
 refine⟨_,_,_,_,b5,?_⟩;have I:=h.alc v.cells.toList e;have c4:YtendaipfdnhnaaaGreatDoor.alc w v.cells.toList.toArray e=w.alloc (.cells v.cells e):=by rw[lE4];rfl
 rw[c4] at I;generalize d0:w.alloc (.cells v.cells e)=g at I⊢;generalize w.heap.size=nb at I⊢;have hs:Src P sz t (hT (kE nb) 1 1) 1 v.cells.toList g:=by
  refine Src.ofSlice g r.ht _ 1 1 _ (by simp[hv]) (λj u c2=>?_) c1;rw[show (Addr.add (hZ nb 0) j)=⟨nb,j,none⟩ from Addr.add_zero_lit nb j];exact I.ld (lZ1 ..) c2
 have b6:Sat σ g (M++((nb,cel v.cells.toList e)::L)):=I.perm lU5.symm
 obtain⟨E,y,O,U,hr,b7,c3,_⟩:=Sat.app r (ty:=ty) c8 b6 hs (.inl (by omega)) hb b8;refine⟨b9 _ _ I,E,n+1,y,O,hr,c5 E y O U b7 ?_⟩;exact c3.sub (List.Sublist.append_left (lT3 ..) _)
end Go.Proofs.YtendaipfdnhnaaaGreatDoor


namespace Go.Proofs.YtendaipfdnhnaaaGreatDoor
open Go.Proofs Go.IntWalk Go.RowKit
set_option maxRecDepth 20000
variable {σ:Out} {w:World} {L L':List ai} {R:Ending->World->Prop}
namespace dM
def k1 (R:EP)(Xa:OA->WP)(g:OA)(w:World):Prop:=aA g λI=>∃y,w.cell? (I.add 1)=some (hY y)/\aA g λO=>stV w ((O.add 1).add 0) (hY (i64.wrap (y+1))) λE=>Xa g E
def bl1 (R:EP)(Xa:OA->WP)(y:OA)(w:World):Prop:=tk w λg=>aA y λa4=>aA y λa5=>∃W,g.cell? (a4.add 1)=some (hY W)/\∃V,g.cell? (a5.add 3)=some (hX V)/\br (decide (W<(V.size:Int))) (aA y λa8=>aA y λa9=>∃O,g.cell? (a8.add 3)=some (hX O)/\∃E,g.cell? (a9.add 1)=some (hY E)/\0<=E/\E<(O.size:Int)/\br ((bt O E)==32) (k1 R Xa y g) (aA y λa12=>aA y λa13=>∃U,g.cell? (a12.add 3)=some (hX U)/\∃I,g.cell? (a13.add 1)=some (hY I)/\0<=I/\I<(U.size:Int)/\br ((bt U I)==9) (k1 R Xa y g) (R (hQ (.tuple #[])) g))) (R (hQ (.tuple #[])) g)
def l1 (R:EP)(g:OA)(w:World):Prop:=∀X:OA->WP,(∀g w,bl1 R X g w->X g w)->X g w
end dM
def dM (R:EP)(g:OA)(w:World):Prop:=aA g λa1=>stV w (a1.add 0) (hY 0) λy=>dM.l1 R g y
theorem dM.sound {R x0 w}(h:dM R x0 w):callE P iP #[kT x0] R w:=
 aG [(5,.lp [2] (dM.bl1 R) λXa=> [(4,.dr (rpN [0,3,6,12,15,18,10,22,24,27,30,33,36,39,45,48,51,43,55,57,60,63,66,69,72,78,81,84,76,88,90,93,96,99])),(3,.mk [2] (dM.k1 R Xa))])] Tryz.func242 Tryz.call242 h
def mO (R:EP)(g:OA)(w:World):Prop:=aA g λa1=>∃W,w.cell? a1=some (hY W)/\br (W==0) (tk w λb6=>aA g λa4=>aA g λa5=>∃a7,b6.cell? (a4.add 3)=some (hX a7)/\∃a6,b6.cell? (a5.add 1)=some (hY a6)/\0<=a6/\a6<=(a7.size:Int)/\R (hQ (hX (a7.extract (Int.toNat a6) a7.size))) b6) (br (W==1) (tk w λb5=>aA g λa9=>aA g λa10=>∃I,b5.cell? (a9.add 3)=some (hX I)/\∃V,b5.cell? (a10.add 1)=some (hY V)/\0<=V/\V<=(I.size:Int)/\(((hP #[32]).size+(I.extract (Int.toNat V) I.size).size:Nat):Int)<=i64.max/\R (hQ (hX ((hP #[32])++(I.extract (Int.toNat V) I.size)))) b5) (br (W==2) (tk w λb4=>aA g λa14=>aA g λb7=>∃y,b4.cell? (a14.add 3)=some (hX y)/\∃O,b4.cell? (b7.add 1)=some (hY O)/\0<=O/\O<=(y.size:Int)/\(((hP #[32,32]).size+(y.extract (Int.toNat O) y.size).size:Nat):Int)<=i64.max/\R (hQ (hX ((hP #[32,32])++(y.extract (Int.toNat O) y.size)))) b4) (br (W==3) (tk w λb3=>aA g λb8=>aA g λb9=>∃E,b3.cell? (b8.add 3)=some (hX E)/\∃U,b3.cell? (b9.add 1)=some (hY U)/\0<=U/\U<=(E.size:Int)/\(((hP #[32,32,32]).size+(E.extract (Int.toNat U) E.size).size:Nat):Int)<=i64.max/\R (hQ (hX ((hP #[32,32,32])++(E.extract (Int.toNat U) E.size)))) b3) (False))))
theorem mO.sound {R x0 w}(h:mO R x0 w):callE P im #[kT x0] R w:=
 aG [(149,.dr (rpN [0,3,6,12,15,18,10,22,24,27])),(629,.dr (rpN [0,3,6,12,15,18,10,22,24,27,30])),(2549,.dr (rpN [0,3,6,12,15,18,10,22,24,27,30])),(10229,.dr (rpN [0,3,6,12,15,18,10,22,24,27,30])),(8181,.no)] Tryz.func186 Tryz.call186 h
namespace gW
def k1 (R:EP)(y:OA)(I:Bool)(w:World):Prop:=br I (aA y λO=>∃g,w.cell? (O.add 1)=some (hY g)/\aA y λU=>stV w ((U.add 1).add 0) (hY (i64.wrap (g+1))) λE=>R (hQ (hV true)) E) (R (hQ (hV false)) w)
end gW
def gW (R:EP)(g:OA)(a6:Int)(w:World):Prop:=aA g λa1=>∃W,w.cell? a1=some (hY W)/\br (decide (W>0)) (br (a6==32) (aA g λa3=>∃V,w.cell? a3=some (hY V)/\aA g λa5=>stV w (a5.add 0) (hY (i64.wrap (V - 1))) λa7=>R (hQ (hV true)) a7) (R (hQ (hV false)) w)) (tk w λy=>aA g λa8=>aA g λa9=>∃O,y.cell? (a8.add 1)=some (hY O)/\∃U,y.cell? (a9.add 3)=some (hX U)/\br (decide (O<(U.size:Int))) (aA g λa12=>aA g λa13=>∃I,y.cell? (a12.add 3)=some (hX I)/\∃E,y.cell? (a13.add 1)=some (hY E)/\0<=E/\E<(I.size:Int)/\gW.k1 R g ((bt I E)==a6) y) (gW.k1 R g false y))
theorem gW.sound {R x0 x1 w}(h:gW R x0 x1 w):callE P fT #[kT x0,.int .u8 x1] R w:=
 aG [(19,.dr (rpN [0,3,6,12,15,18,10,22,24,27,30,33,36,39,45,48,51,60,43,55,57,63,66])),(27,.mk [2,820] (gW.k1 R))] Tryz.func239 Tryz.call239 h
def gx (R:EP)(O:OA)(w:World):Prop:=tk w λE=>aA O λa2=>aA O λa3=>∃g,E.cell? (a2.add 3)=some (hX g)/\∃y,E.cell? (a3.add 1)=some (hY y)/\0<=y/\y<=(g.size:Int)/\callE P gz #[hX (g.extract (Int.toNat y) g.size)] (λe U=>∃I,e= hQ (hX I)/\R (hQ (hX I)) U) E
theorem gx.sound {R x0 w}(h:gx R x0 w):callE P gt #[kT x0] R w:=
 aG [(5,.dr (rpN [0,3,6,12,15,18,10,22,24,29,30]))] Tryz.func150 Tryz.call150 h
def jS (R:EP)(O:OA)(w:World):Prop:=tk w λE=>aA O λa2=>aA O λa3=>∃g,E.cell? (a2.add 3)=some (hX g)/\∃y,E.cell? (a3.add 1)=some (hY y)/\0<=y/\y<=(g.size:Int)/\callE P iM #[hX (g.extract (Int.toNat y) g.size)] (λe U=>∃I,e= hQ (hX I)/\R (hQ (hX I)) U) E
theorem jS.sound {R x0 w}(h:jS R x0 w):callE P jM #[kT x0] R w:=
 aG [(5,.dr (rpN [0,3,6,12,15,18,10,22,24,29,30]))] Tryz.func248 Tryz.call248 h
def rj (R:EP)(I:OA)(w:World):Prop:=tk w λg=>aA I λa2=>aA I λa3=>∃E,g.cell? (a2.add 1)=some (hY E)/\∃y,g.cell? (a3.add 3)=some (hX y)/\R (hQ (hV (decide (E >= (y.size:Int))))) g
theorem rj.sound {R x0 w}(h:rj R x0 w):callE P oH #[kT x0] R w:=
 aG [(5,.dr (rpN [0,3,6,12,15,18,10,22,24,27,30]))] Tryz.func243 Tryz.call243 h
def lW (R:EP)(O:OA)(w:World):Prop:=tk w λE=>aA O λa2=>aA O λa3=>∃g,E.cell? (a2.add 3)=some (hX g)/\∃y,E.cell? (a3.add 1)=some (hY y)/\0<=y/\y<=(g.size:Int)/\callE P gz #[hX (g.extract (Int.toNat y) g.size)] (λe U=>∃I,e= hQ (hX I)/\R (hQ (hV (I.toList==(hP #[]).toList))) U) E
theorem lW.sound {R x0 w}(h:lW R x0 w):callE P ct #[kT x0] R w:=
 aG [(5,.dr (rpN [0,3,6,12,15,18,10,22,24,29,30,33]))] Tryz.func104 Tryz.call104 h
def pD (R:EP)(g:OA)(w:World):Prop:=aA g λa1=>∃V,w.cell? a1=some (hY V)/\br (decide (V>0)) (R (hQ (.int .u8 32)) w) (tk w λE=>aA g λa4=>aA g λa5=>∃W,E.cell? (a4.add 1)=some (hY W)/\∃U,E.cell? (a5.add 3)=some (hX U)/\br (decide (W >= (U.size:Int))) (R (hQ (.int .u8 0)) E) (tk E λO=>aA g λa9=>aA g λa10=>∃I,O.cell? (a9.add 3)=some (hX I)/\∃y,O.cell? (a10.add 1)=some (hY y)/\0<=y/\y<(I.size:Int)/\R (hQ (.int .u8 (bt I y))) O))
theorem pD.sound {R x0 w}(h:pD R x0 w):callE P i6 #[kT x0] R w:=
 aG [(19,.dr (rpN [0,3,6,12,15,18,10,22,24,27])),(23,.dr (rpN [0,3,6,12,15,18,10,22,24,27]))] Tryz.func241 Tryz.call241 h
namespace cN
def k2 (R:EP)(b5:OA)(y:Nat)(w:World):Prop:=∃U,w.cell? (hZ y 0)=some (hY U)/\∃I,w.cell? (hZ y 1)=some (hY I)/\∃V,w.cell? (hZ y 2)=some (hY V)/\∃O,w.cell? (hZ y 3)=some (hX O)/\∃E,w.cell? (hZ y 4)=some (.int .u8 E)/\aA b5 λg=>stV w (g.add 0) (hY U) λW=>stV W (g.add 1) (hY I) λb3=>stV b3 (g.add 2) (hY V) λa6=>stV a6 (g.add 3) (hX O) λa7=>stV a7 (g.add 4) (.int .u8 E) λb4=>R (hQ (hV true)) b4
def k3 (R:EP)(Xa:OA->Int->Int->Bool->Nat->Int->WP)(I:OA)(E:Int)(y:Nat)(g:Int)(w:World):Prop:=br (decide (g >= E)) (k2 R I y w) (R (hQ (hV false)) w)
def k1 (R:EP)(Xa:OA->Int->Int->Bool->Nat->Int->WP)(O:OA)(U b8:Int)(b9:Bool)(g:Nat)(I:Int)(w:World):Prop:=∃b4,w.cell? (hZ g 1)=some (hY b4)/\∃a6,w.cell? (hZ g 3)=some (hX a6)/\br (decide (b4<(a6.size:Int))) (∃E,w.cell? (hZ g 3)=some (hX E)/\∃y,w.cell? (hZ g 1)=some (hY y)/\0<=y/\y<(E.size:Int)/\br ((bt E y)==9) (∃b3,w.cell? (hZ g 1)=some (hY b3)/\∃W,w.cell? (hZ g 2)=some (hY W)/\stV w (hZ g 0) (hY (i64.wrap ((i64.wrap (4 - (F7 .i64 (i64.wrap (b3 - W)) 3))) - 1))) λa7=>∃b7,a7.cell? (hZ g 1)=some (hY b7)/\stV a7 (hZ g 1) (hY (i64.wrap (b7+1))) λb5=>∃b6,b5.cell? (hZ g 1)=some (hY b6)/\stV b5 (hZ g 2) (hY b6) λc1=>Xa O U b8 b9 g (i64.wrap (I+1)) c1) (br ((bt E y)==32) (∃V,w.cell? (hZ g 1)=some (hY V)/\stV w (hZ g 1) (hY (i64.wrap (V+1))) λc2=>Xa O U b8 b9 g (i64.wrap (I+1)) c2) (k3 R Xa O U g I w))) (k3 R Xa O U g I w)
def bl1 (R:EP)(Xa:OA->Int->Int->Bool->Nat->Int->WP)(I:OA)(U O:Int)(E:Bool)(g:Nat)(y:Int)(w:World):Prop:=br (decide (y<O)) (∃a6,w.cell? (hZ g 0)=some (hY a6)/\br (decide (a6>0)) (∃a7,w.cell? (hZ g 0)=some (hY a7)/\stV w (hZ g 0) (hY (i64.wrap (a7 - 1))) λb3=>Xa I U O E g (i64.wrap (y+1)) b3) (∃W,w.cell? (hZ g 1)=some (hY W)/\∃V,w.cell? (hZ g 3)=some (hX V)/\br ((decide (W >= (V.size:Int))) && E) (Xa I U O E g (i64.wrap (y+1)) w) (k1 R Xa I U O E g y w))) (k2 R I g w)
def l1 (R:EP)(I:OA)(U O:Int)(E:Bool)(y:Nat)(g:Int)(w:World):Prop:=∀X:OA->Int->Int->Bool->Nat->Int->WP,(∀I U O E y g w,bl1 R X I U O E y g w->X I U O E y g w)->X I U O E y g w
end cN
def cN (R:EP)(O:OA)(b8 b6:Int)(b5:Bool)(w:World):Prop:=aA O λa1=>∃U,w.cell? (a1.add 0)=some (hY U)/\∃E,w.cell? (a1.add 1)=some (hY E)/\∃y,w.cell? (a1.add 2)=some (hY y)/\∃I,w.cell? (a1.add 3)=some (hX I)/\∃V,w.cell? (a1.add 4)=some (.int .u8 V)/\box w #[hY 0,hY 0,hY 0,hX (hP #[]),.int .u8 0] aW λg b4=>stV b4 (hZ g 0) (hY U) λb9=>stV b9 (hZ g 1) (hY E) λb3=>stV b3 (hZ g 2) (hY y) λa6=>stV a6 (hZ g 3) (hX I) λW=>stV W (hZ g 4) (.int .u8 V) λa7=>cN.l1 R O b8 b6 b5 g 0 a7
theorem cN.sound {R x0 x1 x2 x3 w}(h:cN R x0 x1 x2 x3 w):callE P bp #[kT x0,hY x1,hY x2,hV x3] R w:=
 aG [(43,.lp [2,27,47,60,186,207] (cN.bl1 R) λXa=> [(57,.mk [2,27,47,60,186,207] (cN.k1 R Xa)),(121,.mk [2,27,186,207] (cN.k3 R Xa))]),(15,.mk [2,186] (cN.k2 R))] Tryz.func203 Tryz.call203 h
namespace cX
def k1 (R:EP)(y:BA)(g:Int)(w:World):Prop:=0<=g/\g<=(y.size:Int)/\R (hQ (hX (y.extract (Int.toNat g) y.size))) w
def bl1 (R:EP)(Xa:BA->Int->WP)(y:BA)(g:Int)(w:World):Prop:=((decide (g<(y.size:Int)))=true->0<=g/\g<(y.size:Int))/\(((decide (g<(y.size:Int))) && (!((bt y g)==32)))=true->0<=g/\g<(y.size:Int))/\br ((decide (g<(y.size:Int))) && (((bt y g)==32)||((bt y g)==9))) (Xa y (i64.wrap (g+1)) w) (k1 R y g w)
def l1 (R:EP)(y:BA)(g:Int)(w:World):Prop:=∀X:BA->Int->WP,(∀y g w,bl1 R X y g w->X y g w)->X y g w
end cX
def cX (R:EP)(g:BA)(w:World):Prop:=cX.l1 R g 0 w
theorem cX.sound {R x0 w}(h:cX R x0 w):callE P gz #[hX x0] R w:=
 aG [(19,.lp [1,67] (cX.bl1 R) λXa=> []),(15,.mk [1,67] (cX.k1 R))] Tryz.func140 Tryz.call140 h
namespace cM
def k2 (R:EP)(y:BA)(g:Int)(w:World):Prop:=0<=g/\g<=(y.size:Int)/\R (hQ (hX (y.extract 0 (Int.toNat g)))) w
def bl2 (R:EP)(Xa:BA->Int->WP)(y:BA)(g:Int)(w:World):Prop:=((decide (g>0))=true->0<=(i64.wrap (g - 1))/\(i64.wrap (g - 1))<(y.size:Int))/\(((decide (g>0)) && (!((bt y (i64.wrap (g - 1)))==32)))=true->0<=(i64.wrap (g - 1))/\(i64.wrap (g - 1))<(y.size:Int))/\br ((decide (g>0)) && (((bt y (i64.wrap (g - 1)))==32)||((bt y (i64.wrap (g - 1)))==9))) (Xa y (i64.wrap (g - 1)) w) (k2 R y g w)
def l2 (R:EP)(y:BA)(g:Int)(w:World):Prop:=∀X:BA->Int->WP,(∀y g w,bl2 R X y g w->X y g w)->X y g w
def k1 (R:EP)(g:BA)(y:Int)(w:World):Prop:=0<=y/\y<=(g.size:Int)/\l2 R (g.extract (Int.toNat y) g.size) ((g.extract (Int.toNat y) g.size).size:Int) w
def bl1 (R:EP)(E:BA->Int->WP)(y:BA)(g:Int)(w:World):Prop:=((decide (g<(y.size:Int)))=true->0<=g/\g<(y.size:Int))/\(((decide (g<(y.size:Int))) && (!((bt y g)==32)))=true->0<=g/\g<(y.size:Int))/\br ((decide (g<(y.size:Int))) && (((bt y g)==32)||((bt y g)==9))) (E y (i64.wrap (g+1)) w) (k1 R y g w)
def l1 (R:EP)(y:BA)(g:Int)(w:World):Prop:=∀X:BA->Int->WP,(∀y g w,bl1 R X y g w->X y g w)->X y g w
end cM
def cM (R:EP)(g:BA)(w:World):Prop:=cM.l1 R g 0 w
theorem cM.sound {R x0 w}(h:cM R x0 w):callE P iM #[hX x0] R w:=
 aG [(19,.lp [1,67] (cM.bl1 R) λg=> []),(15,.mk [1,67] (cM.k1 R)),(159,.lp [1,87] (cM.bl2 R) λXa=> []),(127,.mk [1,87] (cM.k2 R))] Tryz.func108 Tryz.call108 h

theorem ui {l:List UInt8}(b5:l.length<4611686018427387904)(h:R (hQ (hX (bs (gI cO l)))) w):cM R (bs l) w:=by
 intro X a6;refine EA (l:=l) (X:=λi=>X (bs l) (i:Int) w) (p:=cO) (λi hi y I=>a6 _ _ _ ?_) 0 (lD2 _) (λi hi E O=>a6 _ _ _ ?_)
 ·refine⟨λ_=>⟨by omega,by simp;omega⟩,λ_=>⟨by omega,by simp;omega⟩,ag ?_ ?_⟩
  ·rw[dh hi 32 32 rfl,dh hi 9 9 rfl]
   simpa[hi,cO] using y
  ·rw[aL (by omega)];exact I
 ·refine⟨λh=>⟨by omega,by simpa using h⟩,λh=>⟨by omega,?_⟩,af ?_ ?_⟩
  ·simp only[lN1,decide_eq_true_eq] at h;exact h.1
  ·by_cases g:i<l.length
   ·rw[dh g 32 32 rfl,dh g 9 9 rfl]
    simpa[g,cO] using E g
   ·simp[g]
  ·refine⟨by omega,by simp;omega,?_⟩;rw[bV];simp only[lC0,aF,lP2,O];simp only[lO2];generalize W:l.dropWhile cO=m;have b3:m.length<4611686018427387904:=by
    have:=lQ2 cO (l:=l)|>.length_le
    rw[W] at this;omega
   intro Y a7;refine HK (l:=m) (X:=λj=>Y (bs m) (j:Int) w) (p:=cO) (λi hi y I=>a7 _ _ _ ?_) m.length (lE1 _) (λj b4 E O=>a7 _ _ _ ?_)
   ·have hd:=gR (n:=i+1) (by omega) (by omega);rw[lF3] at hd;refine⟨λ_=>?_,λ_=>?_,ag ?_ ?_⟩
    ·rw[hd];exact⟨by omega,by simp;omega⟩
    ·rw[hd];exact⟨by omega,by simp;omega⟩
    ·rw[hd,dh hi 32 32 rfl,dh hi 9 9 rfl];simp only[cO] at y;rw[y];simp
    ·rw[hd];exact I
   ·have U:cM.k2 R (bs m) (j:Int) w:=by
     refine⟨by omega,by simp;omega,?_⟩;rw[bV];simp only[lC0,lO2,O,lP2];have:gI cO l=(m.reverse.dropWhile cO).reverse:=by rw[gI,wM,W]
     rw[<-this];exact h
    rcases lM4 j with V|V
    ·subst V;exact⟨λh=>by simp at h,λh=>by simp at h,af (by simp) U⟩
    ·obtain⟨i,rfl⟩: ∃i,j=i+1:=⟨j - 1,by omega⟩
     have hd:=gR (n:=i+1) (by omega) (by omega);rw[lF3] at hd;refine⟨λ_=>?_,λ_=>?_,af ?_ U⟩
     ·rw[hd];exact⟨by omega,by simp;omega⟩
     ·rw[hd];exact⟨by omega,by simp;omega⟩
     ·have:=E i (by omega) rfl;rw[hd,dh (by omega) 32 32 rfl,dh (by omega) 9 9 rfl];simp only[cO] at this;rw[this];simp
theorem kH {l:List UInt8}(g:l.length<4611686018427387904)(h:R (hQ (hX (bs (gI cO l)))) w):callE P iM #[hX (bs l)] R w:=
 cM.sound (ui g h)
theorem kI {l:List UInt8}(V:l.length<4611686018427387904)(h:R (hQ (hX (bs (l.dropWhile cO)))) w):callE P gz #[hX (bs l)] R w:=by
 refine cX.sound ?_;intro X y;refine EA (l:=l) (X:=λi=>X (bs l) (i:Int) w) (p:=cO) (λi hi U I=>y _ _ _ ?_) 0 (lD2 _) (λi hi E O=>y _ _ _ ?_)
 ·refine⟨λ_=>⟨by omega,by simp;omega⟩,λ_=>⟨by omega,by simp;omega⟩,ag ?_ ?_⟩
  ·rw[dh hi 32 32 rfl,dh hi 9 9 rfl]
   simpa[hi,cO] using U
  ·rw[aL (by omega)];exact I
 ·refine⟨λh=>⟨by omega,by simpa using h⟩,λh=>⟨by omega,?_⟩,af ?_ ?_⟩
  ·simp only[lN1,decide_eq_true_eq] at h;exact h.1
  ·by_cases g:i<l.length
   ·rw[dh g 32 32 rfl,dh g 9 9 rfl]
    simpa[g,cO] using E g
   ·simp[g]
  ·refine⟨by omega,by simp;omega,?_⟩;rw[aF,bV];simp only[lC0,lP2,O,lO2];exact h

structure Ln where
 sp:Nat
 i:Nat
 tab:Nat
 text:List UInt8
 nl:UInt8
def Ln.cells (l:Ln):List Value:= [hY l.sp,hY l.i,hY l.tab,hX (bs l.text),.int .u8 l.nl.toNat]
abbrev Ln.at (b:Nat)(l:Ln):ai:=(b,cel l.cells aW)
structure Ln.ok (l:Ln):Prop where
 i:l.i<=l.text.length
 tab:l.tab<=l.i
 len:l.text.length<4611686018427387904
 sp:l.sp<=3
def Ln.blank (l:Ln):Bool:=(l.text.drop l.i).all cO
def Ln.peek (l:Ln):UInt8:=if 0<l.sp then 32 else l.text.getD l.i 0
theorem ml {p:UInt8->Bool}: ∀ {l:List UInt8},((l.dropWhile p)== [])=l.all p
 | []=>rfl
 |a::l=>by
  cases g:p a with
  |true=>rw[lC4 g,ml,lN3,g,lS5]
  |false=>rw[lL2 (by simp[g]),lN3,g];rfl
theorem dH {b:Nat}{l:Ln}(h:Sat σ w L)(E:l.at b∈L)(g:l.ok)(y: ∀w,Sat σ w L->R (hQ (hV l.blank)) w):
 callE P ct #[kT (kE b)] R w:=by
 refine lW.sound ?_
 repeat (first|refine aa ?_|refine h.tk λw h=>?_|refine⟨_,h.ldA,?_⟩|refine⟨_,_,_,h.ldA,?_⟩)
 have:=g.i;refine⟨by omega,by simp;omega,?_⟩;rw[aF,lC0,og];refine kI (by simp;have:=g.len;omega) ⟨_,rfl,?_⟩;rw[cn,gL,ml];exact y _ h
theorem F3 {b:Nat}{l:Ln}(h:Sat σ w L)(y:l.at b∈L)(g: ∀w,Sat σ w L->R (hQ (hV (decide (l.text.length<=l.i)))) w):
 callE P oH #[kT (kE b)] R w:=by
 refine rj.sound ?_
 repeat (first|refine aa ?_|refine h.tk λw h=>?_|refine⟨_,h.ldA,?_⟩|refine⟨_,_,_,h.ldA,?_⟩)
 have:(decide ((l.i:Int) >= ((bs l.text).size:Int)))=decide (l.text.length<=l.i):=by simp
 rw[this];exact g _ h
theorem my {b:Nat}{l:Ln}(h:Sat σ w L)(I:l.at b∈L)(E:l.ok)(y: ∀w,Sat σ w L->R (hQ (.int .u8 l.peek.toNat)) w):
 callE P i6 #[kT (kE b)] R w:=by
 refine pD.sound ?_
 repeat (first|refine aa ?_|refine h.tk λw h=>?_|refine⟨_,h.ldA,?_⟩|refine⟨_,_,_,h.ldA,?_⟩)
 refine bh (λhs=>?_) (λhs=>?_)
 ·have g:l.peek=32:=by simp only[Ln.peek];rw[if_pos (by simpa using hs)]
  have:=y _ h;rw[g] at this;exact this
 ·have hs:l.sp=0:=by simpa using hs
  repeat (first|refine aa ?_|refine h.tk λw h=>?_|refine⟨_,h.ldA,?_⟩|refine⟨_,_,_,h.ldA,?_⟩)
  refine bh (λhi=>?_) (λhi=>?_)
  ·have g:l.peek=0:=by
    simp at hi;simp[Ln.peek,hs,hi]
   have:=y _ h;rw[g] at this;exact this
  ·repeat (first|refine aa ?_|refine h.tk λw h=>?_|refine⟨_,h.ldA,?_⟩|refine⟨_,_,_,h.ldA,?_⟩)
   simp at hi;refine⟨by omega,by simp;omega,?_⟩;have g:(l.peek.toNat:Int)=bt (bs l.text) l.i:=by rw[pH hi];simp[Ln.peek,hs,hi]
   rw[<-g];exact y _ h
theorem He (n:Nat)(E:n<4611686018427387904):F7 .i64 (n:Int) 3=((n%4:Nat):Int):=by
 have g:(BitVec.ofInt 64 (n:Int) &&& BitVec.ofInt 64 3).toNat=n%4:=by
  rw[BitVec.toNat_and];have y:(BitVec.ofInt 64 (n:Int)).toNat=n:=by
   simp;omega
  rw[y,show (BitVec.ofInt 64 3).toNat=2 ^ 2 - 1 from rfl,Nat.and_two_pow_sub_one_eq_mod]
 show i64.wrap (((BitVec.ofInt 64 (n:Int) &&& BitVec.ofInt 64 3).toNat:Nat):Int)=_
 rw[g,i64_in _ (by omega)]
def Ln.tsGo (min:Nat)(eol:Bool):Nat->Nat->Ln->Option Ln
 |0,_,t=>some t
 |k+1,n,t=>
  if 0<t.sp then tsGo min eol k (n+1) {t with sp:=t.sp - 1}
  else if t.text.length<=t.i/\eol=true then tsGo min eol k (n+1) t
  else if t.text[t.i]? =some 9 then tsGo min eol k (n+1) {t with sp:=3 - (t.i - t.tab)%4,i:=t.i+1,tab:=t.i+1}
  else if t.text[t.i]? =some 32 then tsGo min eol k (n+1) {t with i:=t.i+1}
  else if min<=n then some t else none
def Ln.trimSp (min max:Nat)(eol:Bool)(t:Ln):Option Ln:=t.tsGo min eol max 0
theorem trimSp_ok {b:Nat}{l:Ln}{min max:Nat}{eol:Bool}(h:Sat σ w (l.at b::L))(b5:l.ok)(c1:min<4611686018427387904)(c2:max<4611686018427387904)(g:match l.trimSp min max eol with
  |some W=> ∀w,Sat σ w (W.at b::L)->R (hQ (hV true)) w
  |none=> ∀w,Sat σ w (l.at b::L)->R (hQ (hV false)) w):
 callE P bp #[kT (kE b),hY min,hY max,hV eol] R w:=by
 refine cN.sound ?_
 repeat (first|refine aa ?_|refine h.tk λw h=>?_|refine⟨_,h.ldA,?_⟩|refine⟨_,_,_,h.ldA,?_⟩|refine h.stA 0 λw h=>?_|refine h.stA 1 λw h=>?_|refine h.stA 2 λw h=>?_|refine h.stA 3 λw h=>?_|refine h.stA 4 λw h=>?_|refine h.stA 5 λw h=>?_|refine h.stA 6 λw h=>?_|refine h.bx λb0 w h=>?_)
 have h:Sat σ _ (l.at b0::l.at b::L):=h
 intro X a7;have b3: ∀k n (t:Ln) w,n+k=max->t.ok->Sat σ w (t.at b0::l.at b::L)->
  (match t.tsGo min eol k n with
  |some W=> ∀w,Sat σ w (W.at b::L)->R (hQ (hV true)) w
  |none=> ∀w,Sat σ w (l.at b::L)->R (hQ (hV false)) w)->X (kE b) min max eol b0 n w:=by
  intro k
  induction k with
  |zero=>
   intro n t w b4 ht h g;refine a7 _ _ _ _ _ _ _ (af (by simp;omega) ?_)
   repeat (first|refine aa ?_|refine h.tk λw h=>?_|refine⟨_,h.ldA,?_⟩|refine⟨_,_,_,h.ldA,?_⟩|refine h.stA 0 λw h=>?_|refine h.stA 1 λw h=>?_|refine h.stA 2 λw h=>?_|refine h.stA 3 λw h=>?_|refine h.stA 4 λw h=>?_|refine h.stA 5 λw h=>?_|refine h.stA 6 λw h=>?_|refine h.bx λb0 w h=>?_)
   have h:Sat σ _ (t.at b0::t.at b::L):=h
   exact g _ h.tail
  |succ k U=>
   intro n t w b4 ht h g;simp only[Ln.tsGo] at g;refine a7 _ _ _ _ _ _ _ (ag (by simp;omega) ?_);have I:i64.wrap ((n:Int)+1)=((n+1:Nat):Int):=aL (by omega)
   repeat (first|refine aa ?_|refine h.tk λw h=>?_|refine⟨_,h.ldA,?_⟩|refine⟨_,_,_,h.ldA,?_⟩)
   by_cases hs:0<t.sp
   ·rw[if_pos hs] at g;refine ag (by simpa using hs) ?_;have hd:=gR (n:=t.sp) (by have:=ht.sp;omega) hs
    repeat (first|refine aa ?_|refine h.tk λw h=>?_|refine⟨_,h.ldA,?_⟩|refine⟨_,_,_,h.ldA,?_⟩|refine h.stA 0 λw h=>?_|refine h.stA 1 λw h=>?_|refine h.stA 2 λw h=>?_|refine h.stA 3 λw h=>?_|refine h.stA 4 λw h=>?_|refine h.stA 5 λw h=>?_|refine h.stA 6 λw h=>?_|refine h.bx λb0 w h=>?_)
    rw[hd] at h;rw[I];exact U _ {t with sp:=t.sp - 1} _ (by omega) ⟨ht.i,ht.tab,ht.len,by have:=ht.sp;simp;omega⟩ h g
   ·rw[if_neg hs] at g;refine af (by simpa using hs) ?_
    repeat (first|refine aa ?_|refine h.tk λw h=>?_|refine⟨_,h.ldA,?_⟩|refine⟨_,_,_,h.ldA,?_⟩)
    by_cases V:t.text.length<=t.i/\eol=true
    ·rw[if_pos V] at g;refine ag (by simpa using V) ?_;rw[I];exact U _ t _ (by omega) ht h g
    ·rw[if_neg V] at g;refine af (by rw[lZ3];by_cases h:eol=true<;>simp_all) ?_
     repeat (first|refine aa ?_|refine h.tk λw h=>?_|refine⟨_,h.ldA,?_⟩|refine⟨_,_,_,h.ldA,?_⟩)
     by_cases hi:t.i<t.text.length
     ·refine ag (by simpa using hi) ?_
      repeat (first|refine aa ?_|refine h.tk λw h=>?_|refine⟨_,h.ldA,?_⟩|refine⟨_,_,_,h.ldA,?_⟩)
      refine⟨by omega,by simpa using hi,?_⟩;rw[lH0 hi] at g;have b8:=ht.len;have b9:=ht.tab;have a6:i64.wrap ((t.i:Int)+1)=((t.i+1:Nat):Int):=aL (by omega)
      by_cases O:t.text[t.i]=9
      ·rw[if_pos (by rw[O])] at g;refine ag (by rw[dh hi 9 9 rfl,O];rfl) ?_
       repeat (first|refine aa ?_|refine h.tk λw h=>?_|refine⟨_,h.ldA,?_⟩|refine⟨_,_,_,h.ldA,?_⟩)
       have b6:i64.wrap ((t.i:Int) - (t.tab:Int))=((t.i - t.tab:Nat):Int):=by rw[i64_in _ (by omega)];omega
       rw[b6,He _ (by omega),i64_in (4 - _) (by omega),i64_in _ (by omega)];have b7:(4 - (((t.i - t.tab)%4:Nat):Int) - 1)=((3 - (t.i - t.tab)%4:Nat):Int):=by omega
       rw[b7]
       repeat (first|refine aa ?_|refine h.tk λw h=>?_|refine⟨_,h.ldA,?_⟩|refine⟨_,_,_,h.ldA,?_⟩|refine h.stA 0 λw h=>?_|refine h.stA 1 λw h=>?_|refine h.stA 2 λw h=>?_|refine h.stA 3 λw h=>?_|refine h.stA 4 λw h=>?_|refine h.stA 5 λw h=>?_|refine h.stA 6 λw h=>?_|refine h.bx λb0 w h=>?_)
       rw[a6] at h;rw[I];exact U _ {t with sp:=3 - (t.i - t.tab)%4,i:=t.i+1,tab:=t.i+1} _ (by omega) ⟨by simp;omega,by simp,ht.len,by simp⟩ h g
      ·rw[if_neg (by simpa using O)] at g;refine af (by rw[dh hi 9 9 rfl];simpa using O) ?_
       by_cases E:t.text[t.i]=32
       ·rw[if_pos (by rw[E])] at g;refine ag (by rw[dh hi 32 32 rfl,E];rfl) ?_
        repeat (first|refine aa ?_|refine h.tk λw h=>?_|refine⟨_,h.ldA,?_⟩|refine⟨_,_,_,h.ldA,?_⟩|refine h.stA 0 λw h=>?_|refine h.stA 1 λw h=>?_|refine h.stA 2 λw h=>?_|refine h.stA 3 λw h=>?_|refine h.stA 4 λw h=>?_|refine h.stA 5 λw h=>?_|refine h.stA 6 λw h=>?_|refine h.bx λb0 w h=>?_)
        rw[a6] at h;rw[I];exact U _ {t with i:=t.i+1} _ (by omega) ⟨by simp;omega,by simp;omega,ht.len,ht.sp⟩ h g
       ·rw[if_neg (by simpa using E)] at g;refine af (by rw[dh hi 32 32 rfl];simpa using E) ?_
        by_cases y:min<=n
        ·rw[if_pos y] at g;refine ag (by simpa using y) ?_
         repeat (first|refine aa ?_|refine h.tk λw h=>?_|refine⟨_,h.ldA,?_⟩|refine⟨_,_,_,h.ldA,?_⟩|refine h.stA 0 λw h=>?_|refine h.stA 1 λw h=>?_|refine h.stA 2 λw h=>?_|refine h.stA 3 λw h=>?_|refine h.stA 4 λw h=>?_|refine h.stA 5 λw h=>?_|refine h.stA 6 λw h=>?_|refine h.bx λb0 w h=>?_)
         have h:Sat σ _ (t.at b0::t.at b::L):=h
         exact g _ h.tail
        ·rw[if_neg y] at g;refine af (by simpa using y) ?_;exact g _ h.tail
     ·refine af (by simpa using hi) ?_;rw[lV1 (by omega),if_neg (by simp),if_neg (by simp)] at g
      by_cases y:min<=n
      ·rw[if_pos y] at g;refine ag (by simpa using y) ?_
       repeat (first|refine aa ?_|refine h.tk λw h=>?_|refine⟨_,h.ldA,?_⟩|refine⟨_,_,_,h.ldA,?_⟩|refine h.stA 0 λw h=>?_|refine h.stA 1 λw h=>?_|refine h.stA 2 λw h=>?_|refine h.stA 3 λw h=>?_|refine h.stA 4 λw h=>?_|refine h.stA 5 λw h=>?_|refine h.stA 6 λw h=>?_|refine h.bx λb0 w h=>?_)
       have h:Sat σ _ (t.at b0::t.at b::L):=h
       exact g _ h.tail
      ·rw[if_neg y] at g;refine af (by simpa using y) ?_;exact g _ h.tail
 exact b3 max 0 l _ (by omega) b5 h g

def Ln.trimC (c:UInt8)(l:Ln):Option Ln:=
 if 0<l.sp then (if c=32 then some {l with sp:=l.sp - 1} else none)
 else if l.text[l.i]? =some c then some {l with i:=l.i+1} else none
theorem Ln.trimC_ok {c:UInt8}{l y:Ln}(g:l.ok)(h:l.trimC c=some y):y.ok:=by
 simp only[Ln.trimC] at h;have I:=g.i;have O:=g.tab;have U:=g.sp
 split at h
 ·split at h
  ·cases h;exact⟨I,O,g.len,by simp;omega⟩
  ·cases h
 ·split at h
  ·rename_i E;have:=(lJ0.1 E).1;cases h;exact⟨by simp;omega,by simp;omega,g.len,g.sp⟩
  ·cases h
theorem trimC_ok {b:Nat}{l:Ln}{c:UInt8}{n:Int}(hc:(c.toNat:Int)=n)(h:Sat σ w (l.at b::L))(y:l.ok)(g:match l.trimC c with
  |some I=> ∀w,Sat σ w (I.at b::L)->R (hQ (hV true)) w
  |none=> ∀w,Sat σ w (l.at b::L)->R (hQ (hV false)) w):
 callE P fT #[kT (kE b),.int .u8 n] R w:=by
 subst hc;refine gW.sound ?_;simp only[Ln.trimC] at g;have O:=y.i;have U:=y.tab;have W:=y.sp;have V:=y.len
 repeat (first|refine aa ?_|refine h.tk λw h=>?_|refine⟨_,h.ldA,?_⟩|refine⟨_,_,_,h.ldA,?_⟩)
 by_cases hs:0<l.sp
 ·rw[if_pos hs] at g;refine ag (by simpa using hs) ?_
  by_cases hc:c=32
  ·rw[if_pos hc] at g;refine ag (by rw[hc];rfl) ?_;have hd:=gR (n:=l.sp) (by omega) hs
   repeat (first|refine aa ?_|refine h.tk λw h=>?_|refine⟨_,h.ldA,?_⟩|refine⟨_,_,_,h.ldA,?_⟩|refine h.stA 0 λw h=>?_|refine h.stA 1 λw h=>?_|refine h.stA 2 λw h=>?_|refine h.stA 3 λw h=>?_|refine h.stA 4 λw h=>?_|refine h.stA 5 λw h=>?_|refine h.stA 6 λw h=>?_|refine h.bx λb0 w h=>?_)
   rw[hd] at h;exact g _ h
  ·rw[if_neg hc] at g;refine af ?_ (g _ h);have:=nk c 32;rw[show ((32:UInt8).toNat:Int)=32 from rfl] at this;rw[this]
   simpa using hc
 ·rw[if_neg hs] at g;refine af (by simpa using hs) ?_
  repeat (first|refine aa ?_|refine h.tk λw h=>?_|refine⟨_,h.ldA,?_⟩|refine⟨_,_,_,h.ldA,?_⟩)
  have E:i64.wrap ((l.i:Int)+1)=((l.i+1:Nat):Int):=aL (by omega)
  by_cases hi:l.i<l.text.length
  ·rw[lH0 hi] at g;refine ag (by simpa using hi) ?_
   repeat (first|refine aa ?_|refine h.tk λw h=>?_|refine⟨_,h.ldA,?_⟩|refine⟨_,_,_,h.ldA,?_⟩)
   refine⟨by omega,by simpa using hi,?_⟩;rw[dh hi c _ rfl]
   by_cases hc:l.text[l.i]=c
   ·rw[if_pos (by rw[hc])] at g;refine ag (by simpa using hc) ?_
    repeat (first|refine aa ?_|refine h.tk λw h=>?_|refine⟨_,h.ldA,?_⟩|refine⟨_,_,_,h.ldA,?_⟩|refine h.stA 0 λw h=>?_|refine h.stA 1 λw h=>?_|refine h.stA 2 λw h=>?_|refine h.stA 3 λw h=>?_|refine h.stA 4 λw h=>?_|refine h.stA 5 λw h=>?_|refine h.stA 6 λw h=>?_|refine h.bx λb0 w h=>?_)
    rw[E] at h;exact g _ h
   ·rw[if_neg (by simpa using hc)] at g;exact af (by simpa using hc) (g _ h)
  ·rw[lV1 (by omega),if_neg (by simp)] at g;exact af (by simpa using hi) (af rfl (g _ h))
def Ln.skip (l:Ln):Ln:= {l with sp:=0,i:=l.text.length - ((l.text.drop l.i).dropWhile cO).length}
theorem Ln.skip_ok {l:Ln}(g:l.ok):l.skip.ok:=by
 have E:=g.i;have I:=g.tab
 have y:=(lQ2 cO (l:=l.text.drop l.i)).length_le;rw[lJ1] at y;exact⟨by simp only[Ln.skip];omega,by simp only[Ln.skip];omega,g.len,by simp[Ln.skip]⟩
theorem rG {b:Nat}{l:Ln}(h:Sat σ w (l.at b::L))(a6:l.ok)(W: ∀w,Sat σ w (l.skip.at b::L)->R (hQ (.tuple #[])) w):
 callE P iP #[kT (kE b)] R w:=by
 refine dM.sound ?_
 repeat (first|refine aa ?_|refine h.tk λw h=>?_|refine⟨_,h.ldA,?_⟩|refine⟨_,_,_,h.ldA,?_⟩|refine h.stA 0 λw h=>?_|refine h.stA 1 λw h=>?_|refine h.stA 2 λw h=>?_|refine h.stA 3 λw h=>?_|refine h.stA 4 λw h=>?_|refine h.stA 5 λw h=>?_|refine h.stA 6 λw h=>?_|refine h.bx λb0 w h=>?_)
 intro X a7;have b4:=a6.i;have b6:=a6.len
 refine EA (l:=l.text) (p:=cO) (X:=λi=> ∀w,Sat σ w (Ln.at b {l with sp:=0,i:=i}::L)->X (kE b) w) (λi hi y V w h=>a7 _ _ ?_) l.i b4 (λi hi b3 b5 w h=>a7 _ _ ?_) _ h
 ·repeat (first|refine aa ?_|refine h.tk λw h=>?_|refine⟨_,h.ldA,?_⟩|refine⟨_,_,_,h.ldA,?_⟩)
  refine ag (by simpa using hi) ?_
  repeat (first|refine aa ?_|refine h.tk λw h=>?_|refine⟨_,h.ldA,?_⟩|refine⟨_,_,_,h.ldA,?_⟩)
  refine⟨by omega,by simpa using hi,?_⟩;have U:i64.wrap ((i:Int)+1)=((i+1:Nat):Int):=aL (by omega)
  rw[dh hi 32 32 rfl]
  by_cases hc:l.text[i]=32
  ·refine ag (by simpa using hc) ?_
   repeat (first|refine aa ?_|refine h.tk λw h=>?_|refine⟨_,h.ldA,?_⟩|refine⟨_,_,_,h.ldA,?_⟩|refine h.stA 0 λw h=>?_|refine h.stA 1 λw h=>?_|refine h.stA 2 λw h=>?_|refine h.stA 3 λw h=>?_|refine h.stA 4 λw h=>?_|refine h.stA 5 λw h=>?_|refine h.stA 6 λw h=>?_|refine h.bx λb0 w h=>?_)
   rw[U] at h;exact V _ h
  ·refine af (by simpa using hc) ?_
   repeat (first|refine aa ?_|refine h.tk λw h=>?_|refine⟨_,h.ldA,?_⟩|refine⟨_,_,_,h.ldA,?_⟩)
   refine⟨by omega,by simpa using hi,?_⟩;rw[dh hi 9 9 rfl];refine ag (by simpa[cO,hc] using y) ?_
   repeat (first|refine aa ?_|refine h.tk λw h=>?_|refine⟨_,h.ldA,?_⟩|refine⟨_,_,_,h.ldA,?_⟩|refine h.stA 0 λw h=>?_|refine h.stA 1 λw h=>?_|refine h.stA 2 λw h=>?_|refine h.stA 3 λw h=>?_|refine h.stA 4 λw h=>?_|refine h.stA 5 λw h=>?_|refine h.stA 6 λw h=>?_|refine h.bx λb0 w h=>?_)
   rw[U] at h;exact V _ h
 ·have O:l.skip= {l with sp:=0,i:=i}:=by
   simp only[Ln.skip,<-b5,lJ1];congr 1;omega
  rw[<-O] at h;have E:l.skip.i=i:=by rw[O]
  have I:l.skip.text=l.text:=rfl
  repeat (first|refine aa ?_|refine h.tk λw h=>?_|refine⟨_,h.ldA,?_⟩|refine⟨_,_,_,h.ldA,?_⟩)
  rw[E,I]
  by_cases g:i<l.text.length
  ·have y:=b3 g;simp only[cO,lH2,beq_eq_false_iff_ne] at y;refine ag (by simpa using g) ?_
   repeat (first|refine aa ?_|refine h.tk λw h=>?_|refine⟨_,h.ldA,?_⟩|refine⟨_,_,_,h.ldA,?_⟩)
   rw[E,I];refine⟨by omega,by simpa using g,?_⟩;rw[dh g 32 32 rfl];refine af (by simpa using y.1) ?_
   repeat (first|refine aa ?_|refine h.tk λw h=>?_|refine⟨_,h.ldA,?_⟩|refine⟨_,_,_,h.ldA,?_⟩)
   rw[E,I];refine⟨by omega,by simpa using g,?_⟩;rw[dh g 9 9 rfl];exact af (by simpa using y.2) (W _ h)
  ·exact af (by simpa using g) (W _ h)
def Ln.str (l:Ln):List UInt8:=hN l.sp 32++l.text.drop l.i
theorem pS {b:Nat}{l:Ln}(h:Sat σ w L)(W:l.at b∈L)(I:l.ok)(O: ∀w,Sat σ w L->R (hQ (hX (bs l.str))) w):
 callE P im #[kT (kE b)] R w:=by
 refine mO.sound ?_;have a6:=I.i;have b3:=I.sp;have a7:=I.len
 have E: ∀(k:Nat) (pre:ByteArray),l.sp=k->pre=bs (hN k 32)->(∀w,Sat σ w L->R (hQ (hX (pre++(bs l.text).extract l.i l.text.length))) w):=by
  intro k pre U V w h;rw[V,og,bG,<-U];exact O w h
 have y:i64.max=9223372036854775807:=rfl
 repeat (first|refine aa ?_|refine h.tk λw h=>?_|refine⟨_,h.ldA,?_⟩|refine⟨_,_,_,h.ldA,?_⟩)
 have g:l.sp=0\/l.sp=1\/l.sp=2\/l.sp=3:=by omega
 rcases g with g|g|g|g
 ·refine ag (by rw[g];rfl) ?_
  repeat (first|refine aa ?_|refine h.tk λw h=>?_|refine⟨_,h.ldA,?_⟩|refine⟨_,_,_,h.ldA,?_⟩)
  refine⟨by omega,by simp;omega,?_⟩;rw[aF,lC0,og];have:=O _ h;rw[Ln.str,g] at this;exact this
 ·refine af (by rw[g];rfl) (ag (by rw[g];rfl) ?_)
  repeat (first|refine aa ?_|refine h.tk λw h=>?_|refine⟨_,h.ldA,?_⟩|refine⟨_,_,_,h.ldA,?_⟩)
  refine⟨by omega,by simp;omega,?_,?_⟩
  ·rw[y,aF,lC0,og,aF,lJ1]
   show ((1+(l.text.length - l.i):Nat):Int)<=_
   omega
  ·rw[aF,lC0];exact E 1 _ g rfl _ h
 ·refine af (by rw[g];rfl) (af (by rw[g];rfl) (ag (by rw[g];rfl) ?_))
  repeat (first|refine aa ?_|refine h.tk λw h=>?_|refine⟨_,h.ldA,?_⟩|refine⟨_,_,_,h.ldA,?_⟩)
  refine⟨by omega,by simp;omega,?_,?_⟩
  ·rw[y,aF,lC0,og,aF,lJ1]
   show ((2+(l.text.length - l.i):Nat):Int)<=_
   omega
  ·rw[aF,lC0];exact E 2 _ g rfl _ h
 ·refine af (by rw[g];rfl) (af (by rw[g];rfl) (af (by rw[g];rfl) (ag (by rw[g];rfl) ?_)))
  repeat (first|refine aa ?_|refine h.tk λw h=>?_|refine⟨_,h.ldA,?_⟩|refine⟨_,_,_,h.ldA,?_⟩)
  refine⟨by omega,by simp;omega,?_,?_⟩
  ·rw[y,aF,lC0,og,aF,lJ1]
   show ((3+(l.text.length - l.i):Nat):Int)<=_
   omega
  ·rw[aF,lC0];exact E 3 _ g rfl _ h
theorem lu {b:Nat}{l:Ln}(h:Sat σ w L)(E:l.at b∈L)(g:l.ok)(y: ∀w,Sat σ w L->R (hQ (hX (bs ((l.text.drop l.i).dropWhile cO)))) w):
 callE P gt #[kT (kE b)] R w:=by
 refine gx.sound ?_
 repeat (first|refine aa ?_|refine h.tk λw h=>?_|refine⟨_,h.ldA,?_⟩|refine⟨_,_,_,h.ldA,?_⟩)
 have:=g.i;refine⟨by omega,by simp;omega,?_⟩;rw[aF,lC0,og];exact kI (by simp;have:=g.len;omega) ⟨_,rfl,y _ h⟩
theorem vv {b:Nat}{l:Ln}(h:Sat σ w L)(E:l.at b∈L)(g:l.ok)(y: ∀w,Sat σ w L->R (hQ (hX (bs (gI cO (l.text.drop l.i))))) w):
 callE P jM #[kT (kE b)] R w:=by
 refine jS.sound ?_
 repeat (first|refine aa ?_|refine h.tk λw h=>?_|refine⟨_,h.ldA,?_⟩|refine⟨_,_,_,h.ldA,?_⟩)
 have:=g.i;refine⟨by omega,by simp;omega,?_⟩;rw[aF,lC0,og];exact kH (by simp;have:=g.len;omega) ⟨_,rfl,y _ h⟩

structure BT where
 l:List Int
 sc:Bool
 ok:l.length=80
def BT.cells (t:BT):List Value:=t.l.map (λn=>hY n)++ [hV t.sc]
def BT.z:BT:=⟨hN 80 0,false,rfl⟩
structure PS where
 pz:Option Addr
 root:Option Addr
 links:Option Nat
 lineno:Nat
 stq:Option Addr
 stn:Nat
 stc:Nat
 depth:Int
 corner:Bool
 s:List UInt8
 em:Int
 lq:Option Addr
 ln:Nat
 lc:Nat
 Lq:Option Addr
 Ln:Nat
 Lc:Nat
 tq:Option Addr
 tn:Nat
 tc:Nat
 bt:BT
def PS.cells (p:PS):List Value:=
 kT p.pz:: kT p.root:: .map p.links:: hY p.lineno:: hT p.stq p.stn p.stc:: hY p.depth:: hV p.corner:: hX (bs p.s):: hY p.em::
  hT p.lq p.ln p.lc:: hT p.Lq p.Ln p.Lc:: hT p.tq p.tn p.tc::p.bt.cells
abbrev PS.at (b:Nat)(p:PS):ai:=(b,cel p.cells g9)
structure OB where
 bd:Value
 q:Option Addr
 n:Nat
 c:Nat
 s:Nat
 e:Nat
def OB.cells (o:OB):List Value:= [o.bd,hT o.q o.n o.c,hY o.s,hY o.e]
def aP (l:List OB):List Value:=l.flatMap OB.cells
theorem aR: ∀l:List OB,(aP l).length=l.length*4
 | []=>rfl
 |o::l=>by simp only[aP,lL3,lA0,lF0] at*;rw[show (List.flatMap OB.cells l).length=l.length*4 from aR l];simp[OB.cells];omega
theorem tm {f:Nat}(g:f<4): ∀(l:List OB) (j:Nat) (o:OB),l[j]? =some o->(aP l)[j*4+f]? =o.cells[f]?
 | [],j,o,h=>by simp at h
 |o'::l,0,o,h=>by
  simp only[lV5,lI1] at h;subst h;simp only[aP,lL3,lS6,lO0];rw[lM0 (by simp[OB.cells];omega)]
 |o'::l,j+1,o,h=>by
  simp only[lZ2] at h;simp only[aP,lL3];rw[lI0 (by simp[OB.cells];omega)];have:=tm g l j o h;rw[<-this];congr 1;simp[OB.cells];omega
def Stk (p:PS)(l:List OB)(M:List ai):Prop:=Sl 4 az p.stq p.stn p.stc (aP l) M/\p.stn=l.length/\l.length<1048576
theorem Stk.split {p:PS}{l:List OB}{M:List ai}(h:Stk p l M)(I:l≠ []): ∃b sp,p.stq=kE b/\M= [(b,cel (aP l++sp) az)]/\(aP l++sp).length=p.stc*4:=by
 obtain⟨⟨_,_,h|⟨b,sp,y,E,O⟩⟩,g,_⟩:=h
 ·obtain⟨_,h,_⟩:=h;rw[h] at g;exact absurd (lF1 g.symm) I
 ·exact⟨b,sp,y,E,O⟩
theorem Stk.mk' {p:PS}{l:List OB}{b:Nat}{sp:List Value}(I:p.stq=kE b)(g:(aP l++sp).length=p.stc*4)(y:p.stn=l.length)(E:l.length<1048576):
 Stk p l [(b,cel (aP l++sp) az)]:=by
 refine⟨⟨by rw[aR,y],?_,.inr ⟨b,sp,I,rfl,g⟩⟩,y,E⟩;rw[lA0,aR] at g;omega
theorem fD {l:List OB}{sp:List Value}{j f:Nat}{o:OB}(y:f<4)(g:l[j]? =some o):(aP l++sp)[j*4+f]? =o.cells[f]? :=by
 have E:=(lJ0.1 g).1;rw[lM0 (by rw[aR];omega),tm y l j o g]
theorem iO {l:List OB}(o:OB):(l++ [o])[l.length]? =some o:=by simp
theorem kP {n:Nat}(h:n<1048576):i64.wrap (((n+1:Nat):Int) - 1)=(n:Int):=by
 rw[i64_in _ (by omega)];omega
theorem oh {b:Nat}{p:PS}{l:List OB}{o:OB}{M:List ai}(h:Sat σ w (p.at b::M++L))(hs:Stk p (l++ [o]) M)(I: ∀w,Sat σ w (p.at b::M++L)->R (hQ (hT o.q o.n o.c)) w):callE P iY #[kT (kE b)] R w:=by
 obtain⟨sb,sp,E,rfl,O⟩:=hs.split (by simp);have g:=hs.2.1;have y:=hs.2.2;rw[lA0,lE0] at g y;refine jg.sound ?_
 repeat (first|refine aa ?_|refine h.tk λw h=>?_|refine⟨_,h.ldA,?_⟩|refine⟨_,_,_,h.ldA,?_⟩)
 rw[g,kP (by omega)];refine⟨by omega,by omega,?_⟩;rw[E];refine aa ?_;simp only[lL0,lO0,lC0];exact⟨_,_,_,Sat.ld h (by first|assumption|(repeat (first|exact .head _|apply List.Mem.tail))) (fD (f:=1) (by decide) (iO o)),I _ h⟩
theorem o5 {b:Nat}{p:PS}{d:Int}(h:Sat σ w (p.at b::L))(hd:(p.stn:Int)=d)(g: ∀w,Sat σ w (p.at b::L)->R (hQ (.tuple #[])) w):
 callE P bm #[kT (kE b),hY d] R w:=by
 refine aI.sound ?_
 repeat (first|refine aa ?_|refine h.tk λw h=>?_|refine⟨_,h.ldA,?_⟩|refine⟨_,_,_,h.ldA,?_⟩)
 refine af (by simp;omega) ?_;intro X y;refine y _ _ _ ?_
 repeat (first|refine aa ?_|refine h.tk λw h=>?_|refine⟨_,h.ldA,?_⟩|refine⟨_,_,_,h.ldA,?_⟩)
 exact af (by simp;omega) (g _ h)
noncomputable def rowOB:Row P gk az 4 56:=
 ⟨(P.info? az).getD default,((P.info? az).bind (·.zero)).getD default,by kernel_rfl,by kernel_rfl,by kernel_rfl,by kernel_rfl,by kernel_rfl,by kernel_rfl,by decide⟩
theorem jm (l:List OB)(o:OB):aP (l++ [o])=aP l++o.cells:=by simp[aP]
theorem lO {l:List OB}{sp:List Value}{o o':OB}{f:Nat}{v:Value}(y:f<4)(g:o.cells.set f v=o'.cells):
 (aP (l++ [o])++sp).set (l.length*4+f) v=aP (l++ [o'])++sp:=by
 rw[jm,jm,lD0,lD0,lR1 _ _ (by rw[aR];omega),aR,
  show l.length*4+f - l.length*4=f by omega,lY4 _ _ (by simp[OB.cells];omega),g]
theorem o7 {t xt:TypeId}{v:Value}(g: ∀y,P.underlying t≠some (.interface y)){d:TypeDesc}(hd:P.underlying t=some d)(w:World):
 (Instr.typeAssert (.iface t v) xt t true).run P w= .ok (.tuple #[v,hV true]) w:=by
 cases d<;>first|(exact absurd hd (g _))|simp[Instr.typeAssert,run_underlying hd]
theorem vx {t a xt:TypeId}{v:Value}(y: ∀E,P.underlying a≠some (.interface E)){d:TypeDesc}(hd:P.underlying a=some d)(g:t≠a){i:TypeInfo}{z:Value}(hi:P.info? a=some i)(hz:i.zero=some z)(w:World):
 (Instr.typeAssert (.iface t v) xt a true).run P w= .ok (.tuple #[z,hV false]) w:=by
 cases d<;>first|(exact absurd hd (y _))|simp[Instr.typeAssert,run_underlying hd,g,zeroValue,typeInfo,hi,hz]

theorem pK {b:Nat}{p:PS}{l:List OB}{M:List ai}{t:TypeId}{v:Value}(h:Sat σ w (p.at b::M++L))(hs:Stk p l M)(hd:p.depth+1=l.length)(b4:l.length<1048575)(a6: ∀w p' g,p'= {p with stq:=p'.stq,stn:=l.length+1,stc:=p'.stc}->Stk p' (l++ [⟨.iface t v,none,0,0,p.lineno,p.lineno⟩]) g->Sat σ w (p'.at b::g++L)->R (hQ (.tuple #[])) w):
 callE P bQ #[kT (kE b),.iface t v] R w:=by
 have I:=hs.2.1;refine fc.sound ?_
 repeat (first|refine aa ?_|refine h.tk λw h=>?_|refine⟨_,h.ldA,?_⟩|refine⟨_,_,_,h.ldA,?_⟩)
 rw[show i64.wrap (p.depth+1)=p.depth+1 by rw[hd];exact i64_in _ (by omega)];refine o5 h (by rw[hd,I]) λw h=>⟨rfl,?_⟩
 repeat (first|refine aa ?_|refine h.tk λw h=>?_|refine⟨_,h.ldA,?_⟩|refine⟨_,_,_,h.ldA,?_⟩)
 have h:Sat σ w (M++(p.at b::L)):=h.re
 refine Sat.app1 rowOB hs.1 h (v:= .agg #[.nilIface,hT none 0 0,hY 0,hY 0]) rfl (by decide) (by kernel_rfl) (by omega) (by omega) (by decide) λa7 W w g E h=>?_
 have h:Sat σ w (p.at b::g++L):=h.re
 let p':PS:= {p with stq:=a7,stn:=l.length+1,stc:=W}
 rw[I] at E⊢
 (first|refine aa ?_|refine h.tk λw h=>?_|refine⟨_,h.ldA,?_⟩|refine⟨_,_,_,h.ldA,?_⟩|refine h.stA 0 λw h=>?_|refine h.stA 1 λw h=>?_|refine h.stA 2 λw h=>?_|refine h.stA 3 λw h=>?_|refine h.stA 4 λw h=>?_|refine h.stA 5 λw h=>?_|refine h.stA 6 λw h=>?_|refine h.bx λb0 w h=>?_)
 (first|refine aa ?_|refine h.tk λw h=>?_|refine⟨_,h.ldA,?_⟩|refine⟨_,_,_,h.ldA,?_⟩|refine h.stA 0 λw h=>?_|refine h.stA 1 λw h=>?_|refine h.stA 2 λw h=>?_|refine h.stA 3 λw h=>?_|refine h.stA 4 λw h=>?_|refine h.stA 5 λw h=>?_|refine h.stA 6 λw h=>?_|refine h.bx λb0 w h=>?_)
 have h:Sat σ w (p'.at b::g++L):=h
 have U:Stk p' (l++ [⟨.nilIface,none,0,0,0,0⟩]) g:=by
  refine⟨?_,by simp[p'],by simp;omega⟩;rw[jm];exact E
 obtain⟨sb,sp,O,rfl,V⟩:=U.split (by simp)
 repeat (first|refine aa ?_|refine h.tk λw h=>?_|refine⟨_,h.ldA,?_⟩|refine⟨_,_,_,h.ldA,?_⟩)
 rw[show p'.stn=l.length+1 from rfl,kP (by omega)];refine⟨by omega,by omega,?_⟩;rw[O];refine aa ?_;dsimp only[DP];simp only[lL0,lO0,lC0,lL1];have y: ∀(o:OB) (sp:List Value) f,f<4->l.length*4+f<(aP (l++ [o])++sp).length:=by
  intro o sp f b3;rw[lA0,aR,lA0,lE0];omega
 refine Sat.st h (k:=1) rfl (by have:=y ⟨.nilIface,none,0,0,0,0⟩ sp 0 (by decide);simpa using this) trivial rfl λw h=>?_
 have h:Sat σ w (p'.at b:: [(sb,cel (aP (l++ [⟨.iface t v,none,0,0,0,0⟩])++sp) az)]++L):=by
  have e:=lO (l:=l) (sp:=sp) (o:=⟨.nilIface,none,0,0,0,0⟩) (o':=⟨.iface t v,none,0,0,0,0⟩) (f:=0) (v:= .iface t v) (by decide) rfl
  rw[lL1] at e;rw[e] at h;exact h
 repeat (first|refine aa ?_|refine h.tk λw h=>?_|refine⟨_,h.ldA,?_⟩|refine⟨_,_,_,h.ldA,?_⟩)
 refine Sat.st h (k:=1) rfl (y _ sp 2 (by decide)) trivial rfl λw h=>?_
 have h:Sat σ w (p'.at b:: [(sb,cel (aP (l++ [⟨.iface t v,none,0,0,p.lineno,0⟩])++sp) az)]++L):=by
  have e:=lO (l:=l) (sp:=sp) (o:=⟨.iface t v,none,0,0,0,0⟩) (o':=⟨.iface t v,none,0,0,p.lineno,0⟩) (f:=2) (v:= hY p.lineno) (by decide) rfl
  have h:=h;rw[e] at h;exact h
 repeat (first|refine aa ?_|refine h.tk λw h=>?_|refine⟨_,h.ldA,?_⟩|refine⟨_,_,_,h.ldA,?_⟩)
 refine Sat.st h (k:=1) rfl (y _ sp 3 (by decide)) trivial rfl λw h=>?_
 have h:Sat σ w (p'.at b:: [(sb,cel (aP (l++ [⟨.iface t v,none,0,0,p.lineno,p.lineno⟩])++sp) az)]++L):=by
  have e:=lO (l:=l) (sp:=sp) (o:=⟨.iface t v,none,0,0,p.lineno,0⟩) (o':=⟨.iface t v,none,0,0,p.lineno,p.lineno⟩) (f:=3) (v:= hY p.lineno) (by decide) rfl
  have h:=h;rw[e] at h;exact h
 refine a6 _ p' _ rfl ?_ h;refine Stk.mk' O ?_ (by simp[p']) (by simp;omega);rw[<-V,lA0,lA0,aR,aR,lA0,lA0];rfl

theorem Ln.tsGo_ok {min:Nat}{eol:Bool}: ∀(k n:Nat) {l g:Ln},l.ok->l.tsGo min eol k n=some g->g.ok/\g.text=l.text/\g.nl=l.nl
 |0,n,l,g,hl,h=>by simp only[Ln.tsGo,lI1] at h;subst h;exact⟨hl,rfl,rfl⟩
 |k+1,n,l,g,hl,h=>by
  have E:=hl.i;have I:=hl.tab;have O:=hl.sp
  simp only[Ln.tsGo] at h;split at h
  ·exact tsGo_ok k _ (l:= {l with sp:=l.sp - 1}) ⟨E,I,hl.len,by simp;omega⟩ h
  ·split at h
   ·exact tsGo_ok k _ hl h
   ·split at h
    ·rename_i y;have:=(lJ0.1 y).1;exact tsGo_ok k _ (l:= {l with sp:=3 - (l.i - l.tab)%4,i:=l.i+1,tab:=l.i+1}) ⟨by simp;omega,by simp,hl.len,by simp⟩ h
    ·split at h
     ·rename_i y;have:=(lJ0.1 y).1;exact tsGo_ok k _ (l:= {l with i:=l.i+1}) ⟨by simp;omega,by simp;omega,hl.len,O⟩ h
     ·split at h
      ·cases h;exact⟨hl,rfl,rfl⟩
      ·cases h
theorem Ln.tsGo_some {eol:Bool}: ∀(k n:Nat) (l:Ln),∃g,l.tsGo 0 eol k n=some g
 |0,n,l=>⟨l,rfl⟩
 |k+1,n,l=>by
  simp only[Ln.tsGo];split
  ·exact tsGo_some k _ _
  ·split
   ·exact tsGo_some k _ _
   ·split
    ·exact tsGo_some k _ _
    ·split
     ·exact tsGo_some k _ _
     ·exact⟨l,by simp⟩
theorem Ln.trimSp_ok {min max:Nat}{eol:Bool}{l g:Ln}(y:l.ok)(h:l.trimSp min max eol=some g):g.ok:=(Ln.tsGo_ok max 0 y h).1
def Ln.lead (m:Nat)(eol:Bool)(l:Ln):Ln:=(l.trimSp 0 m eol).getD l
theorem Ln.lead_eq (m:Nat)(eol:Bool)(l:Ln):l.trimSp 0 m eol=some (l.lead m eol):=by
 obtain⟨g,h⟩:=Ln.tsGo_some (eol:=eol) m 0 l;rw[Ln.lead,Ln.trimSp,h];rfl
theorem Ln.lead_ok {m:Nat}{eol:Bool}{l:Ln}(g:l.ok):(l.lead m eol).ok:=Ln.trimSp_ok g (l.lead_eq m eol)
theorem lead_ok {b:Nat}{l:Ln}{max:Nat}{eol:Bool}(h:Sat σ w (l.at b::L))(y:l.ok)(E:max<4611686018427387904)(g: ∀w,Sat σ w ((l.lead max eol).at b::L)->R (hQ (hV true)) w):
 callE P bp #[kT (kE b),hY 0,hY max,hV eol] R w:=by
 refine YtendaipfdnhnaaaGreatDoor.trimSp_ok (min:=0) h y (by omega) E ?_;rw[Ln.lead_eq];exact g
abbrev Ln.val (l:Ln):Value:= .agg #[hY l.sp,hY l.i,hY l.tab,hX (bs l.text),.int .u8 l.nl.toNat]
def Ln.quote (l:Ln):Option Ln:=((l.lead 3 false).trimC 62).map λt=>t.lead 1 true
theorem ny {l:Ln}(h:Sat σ w L)(E:l.ok)(g:match l.quote with
  |some I=> ∀w,Sat σ w L->R (hQ (.tuple #[I.val,hV true])) w
  |none=> ∀w,Sat σ w L->R (hQ (.tuple #[l.val,hV false])) w):callE P mF #[l.val] R w:=by
 refine pC.sound ?_;refine Sat.bx h λb1 w h=>?_
 refine Sat.bx h λO w h=>?_
 repeat (first|refine aa ?_|refine h.tk λw h=>?_|refine⟨_,h.ldA,?_⟩|refine⟨_,_,_,h.ldA,?_⟩|refine h.stA 0 λw h=>?_|refine h.stA 1 λw h=>?_|refine h.stA 2 λw h=>?_|refine h.stA 3 λw h=>?_|refine h.stA 4 λw h=>?_|refine h.stA 5 λw h=>?_|refine h.stA 6 λw h=>?_|refine h.bx λb0 w h=>?_)
 have h:Sat σ _ (l.at b0::(O,cel [hY 0,hY 0,hY 0,hX (bs []),.int .u8 0] aW)::l.at b1::L):=h
 refine lead_ok (max:=3) h E (by decide) λw h=>⟨_,rfl,?_⟩
 refine trimC_ok (c:=62) rfl h (Ln.lead_ok E) ?_;simp only[Ln.quote] at g;cases y:(l.lead 3 false).trimC 62 with
 |none=>
  rw[y] at g;intro w h;refine⟨_,rfl,ag rfl ?_⟩
  repeat (first|refine aa ?_|refine h.tk λw h=>?_|refine⟨_,h.ldA,?_⟩|refine⟨_,_,_,h.ldA,?_⟩|refine h.stA 0 λw h=>?_|refine h.stA 1 λw h=>?_|refine h.stA 2 λw h=>?_|refine h.stA 3 λw h=>?_|refine h.stA 4 λw h=>?_|refine h.stA 5 λw h=>?_|refine h.stA 6 λw h=>?_|refine h.bx λb0 w h=>?_)
  exact g _ h.tail.tail.tail
 |some t=>
  rw[y] at g;intro w h;refine⟨_,rfl,af rfl ?_⟩;refine lead_ok (max:=1) h (Ln.trimC_ok (Ln.lead_ok E) y) (by decide) λw h=>⟨_,rfl,?_⟩
  repeat (first|refine aa ?_|refine h.tk λw h=>?_|refine⟨_,h.ldA,?_⟩|refine⟨_,_,_,h.ldA,?_⟩|refine h.stA 0 λw h=>?_|refine h.stA 1 λw h=>?_|refine h.stA 2 λw h=>?_|refine h.stA 3 λw h=>?_|refine h.stA 4 λw h=>?_|refine h.stA 5 λw h=>?_|refine h.stA 6 λw h=>?_|refine h.bx λb0 w h=>?_)
  exact g _ h.tail.tail.tail

theorem u8b (c d:UInt8)(n:Int)(hd:(d.toNat:Int)=n):(((c.toNat:Nat):Int)==n)=(c==d):=by subst hd;exact nk c d
def Ln.hrGo (c:UInt8):Nat->Nat->Ln->Bool
 |0,_,_=>false
 |f+1,n,l=>match l.trimC c with
  |none=>decide (3<=n) && decide (l.text.length<=l.i)
  |some g=>g.skip.hrGo c f (n+1)
def Ln.isHR (l:Ln):Bool:=
 let t:=l.lead 3 false
 if t.peek=45\/t.peek=95\/t.peek=42 then t.hrGo t.peek (t.text.length+1) 0 else false
theorem Ln.skip_ge {l:Ln}(g:l.ok):l.i<=l.skip.i:=by
 have E:=g.i;have y:=(lQ2 cO (l:=l.text.drop l.i)).length_le;rw[lJ1] at y;simp only[Ln.skip];omega
theorem Dg {l:Ln}(h:Sat σ w L)(W:l.ok)(E: ∀w,Sat σ w L->R (hQ (hV l.isHR)) w):callE P Dn #[l.val] R w:=by
 refine mZ.sound ?_;refine Sat.bx h λb1 w h=>?_
 repeat (first|refine aa ?_|refine h.tk λw h=>?_|refine⟨_,h.ldA,?_⟩|refine⟨_,_,_,h.ldA,?_⟩|refine h.stA 0 λw h=>?_|refine h.stA 1 λw h=>?_|refine h.stA 2 λw h=>?_|refine h.stA 3 λw h=>?_|refine h.stA 4 λw h=>?_|refine h.stA 5 λw h=>?_|refine h.stA 6 λw h=>?_|refine h.bx λb0 w h=>?_)
 have h:Sat σ _ (l.at b0::l.at b1::L):=h
 refine lead_ok (max:=3) h W (by decide) λw h=>⟨_,rfl,?_⟩
 have ht:=Ln.lead_ok (m:=3) (eol:=false) W
 refine my h (by first|assumption|(repeat (first|exact .head _|apply List.Mem.tail))) ht λw h=>⟨_,rfl,?_⟩
 generalize b6:l.lead 3 false=t at*
 have hi:l.isHR=if t.peek=45\/t.peek=95\/t.peek=42 then t.hrGo t.peek (t.text.length+1) 0 else false:=by simp only[Ln.isHR,b6]
 have a6: ∀(c:UInt8),c≠32-> ∀f n (t:Ln) w,t.ok->t.text.length - t.i<f->n<=t.i->Sat σ w (t.at b0::l.at b1::L)->(∀w,Sat σ w L->R (hQ (hV (t.hrGo c f n))) w)->
  mZ.l1 R b0 c.toNat n w:=by
  intro c hc f n t w ht c1 b8 h E X b4
  induction f generalizing n t w with
  |zero=>omega
  |succ f b5=>
   refine b4 _ _ _ _ ?_;refine trimC_ok (c:=c) rfl h ht ?_;simp only[Ln.hrGo] at E;have b9:=ht.i;have c2:=ht.len
   cases y:t.trimC c with
   |none=>
    rw[y] at E;intro w h;refine⟨_,rfl,ag rfl ?_⟩;refine bh (λO=>?_) (λO=>?_)
    ·refine F3 h (by first|assumption|(repeat (first|exact .head _|apply List.Mem.tail))) λw h=>⟨_,rfl,?_⟩
     have:=E _ h.tail.tail;rw[show decide (3<=n)=true by simp at O⊢;omega,lS5] at this;exact this
    ·have:=E _ h.tail.tail;rw[show decide (3<=n)=false by simp at O⊢;omega,Bool.false_and] at this;exact this
   |some t'=>
    rw[y] at E;intro w h;refine⟨_,rfl,af rfl ?_⟩;have I:=Ln.trimC_ok ht y;refine rG h I λw h=>⟨rfl,?_⟩
    have hd:t'.i=t.i+1/\t'.text=t.text:=by
     simp only[Ln.trimC,hc,if_false] at y;split at y
     ·cases y
     ·split at y
      ·cases y;exact⟨rfl,rfl⟩
      ·cases y
    have b7:=Ln.skip_ge I;have b3:t'.skip.text=t.text:=hd.2;rw[aL (by omega)];have a7:=I.i;rw[hd.2] at a7;exact b5 (n+1) t'.skip _ (Ln.skip_ok I) (by rw[b3];omega) (by omega) h E
 have fin:(t.peek=45\/t.peek=95\/t.peek=42)->Sat σ w (t.at b0::l.at b1::L)->mZ.k1 R b0 t.peek.toNat true w:=by
  intro g h;rw[if_pos g] at hi;refine ag rfl ?_;refine a6 t.peek (by rcases g with g|g|g<;>rw[g]<;>decide) (t.text.length+1) 0 t w ht (by omega) (by omega) h (by rw[<-hi];exact E)
 rw[u8b _ 45 45 rfl,u8b _ 95 95 rfl,u8b _ 42 42 rfl];refine bh (λg=>fin (.inl (by simpa using g)) h) (λV=>bh (λg=>fin (.inr (.inl (by simpa using g))) h) (λU=>?_))
 by_cases g:t.peek=42
 ·rw[show (t.peek==42)=true by simpa using g];exact fin (.inr (.inr g)) h
 ·rw[show (t.peek==42)=false by simpa using g];have:=E _ h.tail.tail;rw[hi,if_neg (by simp at V U;simp[V,U,g])] at this;exact af rfl this

theorem iU {x:Value}{q:Option Addr}{l:Ln}(h:Sat σ w L)(E:l.ok)(g:l.quote=none)(y: ∀w,Sat σ w L->R (hQ (.tuple #[l.val,hV false])) w):callE P kD #[kT q,l.val] R w:=by
 refine oJ.sound ?_;refine Sat.bx h λb1 w h=>?_
 refine Sat.bx h λI w h=>?_
 repeat (first|refine aa ?_|refine h.tk λw h=>?_|refine⟨_,h.ldA,?_⟩|refine⟨_,_,_,h.ldA,?_⟩)
 refine ny (l:=l) h E ?_;rw[g];intro w h;refine⟨_,_,_,_,_,_,rfl,?_⟩;refine Sat.bx h λO w h=>?_
 repeat (first|refine aa ?_|refine h.tk λw h=>?_|refine⟨_,h.ldA,?_⟩|refine⟨_,_,_,h.ldA,?_⟩|refine h.stA 0 λw h=>?_|refine h.stA 1 λw h=>?_|refine h.stA 2 λw h=>?_|refine h.stA 3 λw h=>?_|refine h.stA 4 λw h=>?_|refine h.stA 5 λw h=>?_|refine h.stA 6 λw h=>?_|refine h.bx λb0 w h=>?_)
 exact y _ h.tail.tail.tail
theorem sH {q:Option Addr}{l:Ln}(h:Sat σ w L)(y:l.ok)(E:l.isHR=false)(g: ∀w,Sat σ w L->R (hQ (.tuple #[l.val,hV false])) w):callE P ra #[kT q,l.val] R w:=by
 refine wb.sound ?_;refine Sat.bx h λb1 w h=>?_
 refine Sat.bx h λI w h=>?_
 repeat (first|refine aa ?_|refine h.tk λw h=>?_|refine⟨_,h.ldA,?_⟩|refine⟨_,_,_,h.ldA,?_⟩)
 refine Dg (l:=l) h y λw h=>⟨_,rfl,?_⟩
 rw[E]
 repeat (first|refine aa ?_|refine h.tk λw h=>?_|refine⟨_,h.ldA,?_⟩|refine⟨_,_,_,h.ldA,?_⟩|refine h.stA 0 λw h=>?_|refine h.stA 1 λw h=>?_|refine h.stA 2 λw h=>?_|refine h.stA 3 λw h=>?_|refine h.stA 4 λw h=>?_|refine h.stA 5 λw h=>?_|refine h.stA 6 λw h=>?_|refine h.bx λb0 w h=>?_)
 exact g _ h.tail.tail
def Ln.hashes:Nat->Nat->Ln->Nat × Ln
 |0,n,l=>(n,l)
 |k+1,n,l=>match l.trimC 35 with
  |none=>(n,l)
  |some g=>g.hashes k (n+1)
def Ln.heading (l:Ln):Option (Nat × Ln):=
 match (l.lead 3 false).trimC 35 with
 |none=>none
 |some t=>((t.hashes 5 1).2.trimSp 1 1 true).map λt'=>((t.hashes 5 1).1,t')
theorem o6 {b nb:Nat}{l:Ln}{v:Int}{e:TypeId}(h:Sat σ w (l.at b::(nb,cel [hY v] e)::L))(I:l.ok)(g:match l.heading with
  |some (n,E)=> ∀w,Sat σ w (E.at b::(nb,cel [hY n] e)::L)->R (hQ (hV true)) w
  |none=> ∀w,Sat σ w (l.at b::(nb,cel [hY v] e)::L)->R (hQ (hV false)) w):
 callE P jx #[kT (kE b),kT (kE nb)] R w:=by
 refine cu.sound ?_
 repeat (first|refine aa ?_|refine h.tk λw h=>?_|refine⟨_,h.ldA,?_⟩|refine⟨_,_,_,h.ldA,?_⟩|refine h.stA 0 λw h=>?_|refine h.stA 1 λw h=>?_|refine h.stA 2 λw h=>?_|refine h.stA 3 λw h=>?_|refine h.stA 4 λw h=>?_|refine h.stA 5 λw h=>?_|refine h.stA 6 λw h=>?_|refine h.bx λb0 w h=>?_)
 have h:Sat σ _ (l.at b0::l.at b::(nb,cel [hY v] e)::L):=h
 refine lead_ok (max:=3) h I (by decide) λw h=>⟨_,rfl,?_⟩
 have ht:=Ln.lead_ok (m:=3) (eol:=false) I
 refine trimC_ok (c:=35) rfl h ht ?_;simp only[Ln.heading] at g;cases y:(l.lead 3 false).trimC 35 with
 |none=>
  rw[y] at g;exact λw h=>⟨_,rfl,ag rfl (g _ h.tail)⟩
 |some t=>
  rw[y] at g;intro w h;refine⟨_,rfl,af rfl ?_⟩;have ht:=Ln.trimC_ok ht y;have fin: ∀(n:Nat) (t':Ln) w,t'.ok->Sat σ w (t'.at b0::l.at b::(nb,cel [hY v] e)::L)->
   (match (t'.trimSp 1 1 true).map λt'=>(n,t') with
   |some (n,E)=> ∀w,Sat σ w (E.at b::(nb,cel [hY n] e)::L)->R (hQ (hV true)) w
   |none=> ∀w,Sat σ w (l.at b::(nb,cel [hY v] e)::L)->R (hQ (hV false)) w)->
   cu.k1 R (kE b) (kE nb) b0 n w:=by
   intro n t' w W h g;refine YtendaipfdnhnaaaGreatDoor.trimSp_ok (min:=1) (max:=1) h W (by decide) (by decide) ?_;cases hs:t'.trimSp 1 1 true with
   |none=>
    rw[hs] at g;exact λw h=>⟨_,rfl,ag rfl (g _ h.tail)⟩
   |some U=>
    rw[hs] at g;intro w h;refine⟨_,rfl,af rfl ?_⟩
    repeat (first|refine aa ?_|refine h.tk λw h=>?_|refine⟨_,h.ldA,?_⟩|refine⟨_,_,_,h.ldA,?_⟩|refine h.stA 0 λw h=>?_|refine h.stA 1 λw h=>?_|refine h.stA 2 λw h=>?_|refine h.stA 3 λw h=>?_|refine h.stA 4 λw h=>?_|refine h.stA 5 λw h=>?_|refine h.stA 6 λw h=>?_|refine h.bx λb0 w h=>?_)
    have h:Sat σ _ (U.at b0::U.at b::(nb,cel [hY n] e)::L):=h
    exact g _ h.tail
  have V: ∀k n (t:Ln) w,t.ok->k+n=6->Sat σ w (t.at b0::l.at b::(nb,cel [hY v] e)::L)->
   (match ((t.hashes k n).2.trimSp 1 1 true).map λt'=>((t.hashes k n).1,t') with
   |some (n,E)=> ∀w,Sat σ w (E.at b::(nb,cel [hY n] e)::L)->R (hQ (hV true)) w
   |none=> ∀w,Sat σ w (l.at b::(nb,cel [hY v] e)::L)->R (hQ (hV false)) w)->
   cu.l1 R (kE b) (kE nb) b0 n w:=by
   intro k n t w ht a7 h g X O
   induction k generalizing n t w with
   |zero=>exact O _ _ _ _ _ (af (by simp;omega) (fin n t w ht h g))
   |succ k a6=>
    refine O _ _ _ _ _ (ag (by simp;omega) ?_);refine trimC_ok (c:=35) rfl h ht ?_;simp only[Ln.hashes] at g;cases y:t.trimC 35 with
    |none=>
     rw[y] at g;exact λw h=>⟨_,rfl,af rfl (fin n t w ht h g)⟩
    |some t'=>
     rw[y] at g;intro w h;refine⟨_,rfl,ag rfl ?_⟩;rw[aL (by omega)];exact a6 (n+1) t' w (Ln.trimC_ok ht y) (by omega) h g
  exact V 5 1 t w ht rfl h g
theorem l9 {q:Option Addr}{l:Ln}(h:Sat σ w L)(E:l.ok)(g:l.heading=none)(y: ∀w,Sat σ w L->R (hQ (.tuple #[l.val,hV false])) w):callE P fF #[kT q,l.val] R w:=by
 refine cJ.sound ?_;refine Sat.bx h λb1 w h=>?_
 refine Sat.bx h λI w h=>?_
 repeat (first|refine aa ?_|refine h.tk λw h=>?_|refine⟨_,h.ldA,?_⟩|refine⟨_,_,_,h.ldA,?_⟩)
 refine Sat.bx h λO w h=>?_
 repeat (first|refine aa ?_|refine h.tk λw h=>?_|refine⟨_,h.ldA,?_⟩|refine⟨_,_,_,h.ldA,?_⟩|refine h.stA 0 λw h=>?_|refine h.stA 1 λw h=>?_|refine h.stA 2 λw h=>?_|refine h.stA 3 λw h=>?_|refine h.stA 4 λw h=>?_|refine h.stA 5 λw h=>?_|refine h.stA 6 λw h=>?_|refine h.bx λb0 w h=>?_)
 have h:Sat σ _ ((b0,cel [hY 0] ba)::l.at O::(I,cel [hY 0,hY 0,hY 0,hX (bs []),.int .u8 0] aW)::l.at b1::L):=h
 refine o6 h.up1 E ?_;rw[g];intro w h;refine⟨_,rfl,af rfl ?_⟩
 repeat (first|refine aa ?_|refine h.tk λw h=>?_|refine⟨_,h.ldA,?_⟩|refine⟨_,_,_,h.ldA,?_⟩|refine h.stA 0 λw h=>?_|refine h.stA 1 λw h=>?_|refine h.stA 2 λw h=>?_|refine h.stA 3 λw h=>?_|refine h.stA 4 λw h=>?_|refine h.stA 5 λw h=>?_|refine h.stA 6 λw h=>?_|refine h.bx λb0 w h=>?_)
 exact y _ h.tail.tail.tail.tail

theorem wV {b:Nat}{q:Option Addr}{l:Ln}(h:Sat σ w (l.at b::L))(g:l.ok)(E:(l.lead 3 false).peek≠60)(y: ∀w,Sat σ w (l.at b::L)->R (hQ (hV false)) w):callE P gr #[kT q,kT (kE b)] R w:=by
 refine gv.sound ?_
 repeat (first|refine aa ?_|refine h.tk λw h=>?_|refine⟨_,h.ldA,?_⟩|refine⟨_,_,_,h.ldA,?_⟩|refine h.stA 0 λw h=>?_|refine h.stA 1 λw h=>?_|refine h.stA 2 λw h=>?_|refine h.stA 3 λw h=>?_|refine h.stA 4 λw h=>?_|refine h.stA 5 λw h=>?_|refine h.stA 6 λw h=>?_|refine h.bx λb0 w h=>?_)
 have h:Sat σ _ (l.at b0::l.at b::L):=h
 refine lead_ok (max:=3) h g (by decide) λw h=>⟨_,rfl,?_⟩
 refine my h (by first|assumption|(repeat (first|exact .head _|apply List.Mem.tail))) (Ln.lead_ok g) λw h=>⟨_,rfl,?_⟩
 refine ag ?_ (y _ h.tail);rw[bne,u8b _ 60 60 rfl]
 simpa using E
theorem oB {q:Option Addr}{l:Ln}(h:Sat σ w L)(y:l.ok)(I:(l.lead 3 false).peek≠60)(g: ∀w,Sat σ w L->R (hQ (.tuple #[l.val,hV false])) w):callE P mg #[kT q,l.val] R w:=by
 refine tO.sound ?_;refine Sat.bx h λb1 w h=>?_
 refine Sat.bx h λE w h=>?_
 repeat (first|refine aa ?_|refine h.tk λw h=>?_|refine⟨_,h.ldA,?_⟩|refine⟨_,_,_,h.ldA,?_⟩|refine h.stA 0 λw h=>?_|refine h.stA 1 λw h=>?_|refine h.stA 2 λw h=>?_|refine h.stA 3 λw h=>?_|refine h.stA 4 λw h=>?_|refine h.stA 5 λw h=>?_|refine h.stA 6 λw h=>?_|refine h.bx λb0 w h=>?_)
 have h:Sat σ _ (l.at b0::(E,cel [hY 0,hY 0,hY 0,hX (bs []),.int .u8 0] aW)::l.at b1::L):=h
 refine wV h y I λw h=>⟨_,rfl,af rfl ?_⟩
 repeat (first|refine aa ?_|refine h.tk λw h=>?_|refine⟨_,h.ldA,?_⟩|refine⟨_,_,_,h.ldA,?_⟩|refine h.stA 0 λw h=>?_|refine h.stA 1 λw h=>?_|refine h.stA 2 λw h=>?_|refine h.stA 3 λw h=>?_|refine h.stA 4 λw h=>?_|refine h.stA 5 λw h=>?_|refine h.stA 6 λw h=>?_|refine h.bx λb0 w h=>?_)
 exact g _ h.tail.tail.tail
theorem rC {b:Nat}{p:PS}{l:List OB}{o:OB}{M:List ai}(h:Sat σ w (p.at b::M++L))(hs:Stk p (l++ [o]) M){t:TypeId}{v:Value}(O:o.bd= .iface t v)(E: ∀w,Sat σ w (p.at b::M++L)->R (hQ (if t=ar then v else kT none)) w)(hv:t=ar-> ∃q,v= kT q):
 callE P eL #[kT (kE b)] R w:=by
 obtain⟨sb,sp,U,rfl,W⟩:=hs.split (by simp);have y:=hs.2.1;have I:=hs.2.2;rw[lA0,lE0] at y I;refine jO.sound ?_
 repeat (first|refine aa ?_|refine h.tk λw h=>?_|refine⟨_,h.ldA,?_⟩|refine⟨_,_,_,h.ldA,?_⟩)
 rw[y,kP (by omega)];refine⟨by omega,by omega,?_⟩;rw[U];refine aa ?_;simp only[lL0,lO0,lC0];refine⟨o.bd,Sat.ld h (by first|assumption|(repeat (first|exact .head _|apply List.Mem.tail))) (fD (f:=0) (by decide) (iO o)),?_⟩;rw[O];have g:P.underlying ar=some (.pointer aM):=by kernel_rfl
 by_cases ht:t=ar
 ·obtain⟨q,rfl⟩:=hv ht;subst ht;have:=E _ h;rw[if_pos rfl] at this;exact⟨q,true,λw=>o7 (by rw[g];intro V h;cases h) g w,ag rfl this⟩
 ·have:=E _ h;rw[if_neg ht] at this;refine⟨none,false,λw=>?_,af rfl this⟩;exact vx (by rw[g];intro V h;cases h) g ht (i:=(P.info? ar).getD default) (by kernel_rfl) (by kernel_rfl) w

def Ln.strip:Nat->Nat->Ln->Nat × Ln
 |0,n,l=>(n,l)
 |k+1,n,l=>match l.trimSp 1 1 false with
  |none=>(n,l)
  |some g=>g.strip k (n+1)
theorem Ln.strip_ok: ∀(k n:Nat) {l:Ln},l.ok->(l.strip k n).2.ok/\(l.strip k n).1<=n+k
 |0,n,l,h=>⟨h,lE1 _⟩
 |k+1,n,l,h=>by
  simp only[Ln.strip];split
  ·exact⟨h,by simp⟩
  ·rename_i y g;have:=strip_ok k (n+1) (Ln.trimSp_ok h g);exact⟨this.1,by have:=this.2;omega⟩
def mD (c:UInt8):Bool:=c==45||c==42||c==43||(48<=c && c<=57)
theorem vf {c d:UInt8}{n:Int}(hd:(d.toNat:Int)=n)(h:c≠d):(((c.toNat:Nat):Int)==n)=false:=by
 rw[u8b _ d n hd];simpa using h
theorem sg {b:Nat}{q:Option Addr}{l:Ln}(h:Sat σ w (l.at b::L))(b4:l.ok)(g:mD (l.strip 3 0).2.peek=false)(b3: ∀w,Sat σ w (l.at b::L)->R (hQ (hV false)) w):callE P bN #[kT q,kT (kE b)] R w:=by
 refine am.sound ?_;refine Sat.bx h λb1 w h=>?_
 repeat (first|refine aa ?_|refine h.tk λw h=>?_|refine⟨_,h.ldA,?_⟩|refine⟨_,_,_,h.ldA,?_⟩|refine h.stA 0 λw h=>?_|refine h.stA 1 λw h=>?_|refine h.stA 2 λw h=>?_|refine h.stA 3 λw h=>?_|refine h.stA 4 λw h=>?_|refine h.stA 5 λw h=>?_|refine h.stA 6 λw h=>?_|refine h.bx λb0 w h=>?_)
 have h:Sat σ _ (l.at b0::(b1,cel [kT q] ah)::l.at b::L):=h
 have fin: ∀(n:Nat) (t:Ln) w,t.ok->mD t.peek=false->Sat σ w (t.at b0::(b1,cel [kT q] ah)::l.at b::L)->am.k1 R b1 b0 n w:=by
  intro n t w ht g h;refine my h (by first|assumption|(repeat (first|exact .head _|apply List.Mem.tail))) ht λw h=>⟨_,rfl,?_⟩
  generalize t.peek=c at*
  simp only[mD,lH2,beq_eq_false_iff_ne,lZ3,decide_eq_false_iff_not] at g;obtain⟨⟨⟨a6,a7⟩,b5⟩,y⟩:=g;have hd: ∀d:UInt8,48<=d->d<=57->c≠d:=by
   intro d V U hc;subst hc;rcases y with y|y
   ·exact y V
   ·exact y U
  have O:=vf (n:=43) rfl b5;have W:=vf (n:=57) rfl (hd 57 (by decide) (by decide));refine af (vf (d:=45) rfl a6) (af (vf (d:=42) rfl a7) ?_);rw[O];refine af rfl ?_;refine af (vf (d:=48) rfl (hd _ (by decide) (by decide))) ?_;refine af (vf (d:=49) rfl (hd _ (by decide) (by decide))) ?_;refine af (vf (d:=50) rfl (hd _ (by decide) (by decide))) ?_;refine af (vf (d:=51) rfl (hd _ (by decide) (by decide))) ?_;refine af (vf (d:=52) rfl (hd _ (by decide) (by decide))) ?_;refine af (vf (d:=53) rfl (hd _ (by decide) (by decide))) ?_;refine af (vf (d:=54) rfl (hd _ (by decide) (by decide))) ?_;refine af (vf (d:=55) rfl (hd _ (by decide) (by decide))) ?_;refine af (vf (d:=56) rfl (hd _ (by decide) (by decide))) ?_;rw[W];exact af rfl (b3 _ h.tail.tail)
 intro X E;have I: ∀k n (t:Ln) w,t.ok->k+n=3->mD (t.strip k n).2.peek=false->Sat σ w (t.at b0::(b1,cel [kT q] ah)::l.at b::L)->X b1 b0 n n w:=by
  intro k n t w ht b7 g h
  induction k generalizing n t w with
  |zero=>exact E _ _ _ _ _ (af (by simp;omega) (fin n t w ht g h))
  |succ k b6=>
   refine E _ _ _ _ _ (ag (by simp;omega) ?_);refine YtendaipfdnhnaaaGreatDoor.trimSp_ok (min:=1) (max:=1) h ht (by decide) (by decide) ?_;simp only[Ln.strip] at g;cases hs:t.trimSp 1 1 false with
   |none=>
    rw[hs] at g;exact λw h=>⟨_,rfl,ag rfl (fin n t w ht g h)⟩
   |some t'=>
    rw[hs] at g;intro w h;refine⟨_,rfl,af rfl ?_⟩;rw[aL (by omega)];exact b6 (n+1) t' w (Ln.trimSp_ok ht hs) (by omega) g h
 exact I 3 0 l _ b4 rfl g h

abbrev zLn (b:Nat):ai:=(b,cel [hY 0,hY 0,hY 0,hX (bs []),.int .u8 0] aW)
theorem ro {b d:Nat}{p:PS}{l:List OB}{M:List ai}(h:Sat σ w (p.at b::M++L))(hs:Stk p l M)(hd:p.depth=d)(E: ∀w,Sat σ w (p.at b::M++L)->R (hQ (match l[d]? with|some o=>o.bd|none=> .nilIface)) w):
 callE P jL #[kT (kE b)] R w:=by
 have y:=hs.2.1;have O:=hs.2.2;refine jQ.sound ?_
 repeat (first|refine aa ?_|refine h.tk λw h=>?_|refine⟨_,h.ldA,?_⟩|refine⟨_,_,_,h.ldA,?_⟩)
 rw[y,hd]
 by_cases g:d<l.length
 ·obtain⟨sb,sp,I,rfl,U⟩:=hs.split (by intro h;subst h;simp at g);refine ag (by simpa using g) ?_
  repeat (first|refine aa ?_|refine h.tk λw h=>?_|refine⟨_,h.ldA,?_⟩|refine⟨_,_,_,h.ldA,?_⟩)
  rw[y,hd];refine⟨by omega,by omega,?_⟩;rw[I];refine aa ?_;simp only[lL0,lO0,lC0];refine⟨l[d].bd,Sat.ld h (by first|assumption|(repeat (first|exact .head _|apply List.Mem.tail))) (fD (f:=0) (by decide) (lH0 g)),?_⟩;have:=E _ h;rw[lH0 g] at this;exact this
 ·have:=E _ h;rw[lV1 (by omega)] at this;exact af (by simpa using g) this
theorem mA {b d:Nat}{p:PS}{l:List OB}{M:List ai}(h:Sat σ w (p.at b::M++L))(hs:Stk p l M)(hd:p.depth=d)(O:d<1048577)(E: ∀w,Sat σ w (p.at b::M++L)->R (hQ (match l[d+1]? with|some o=>o.bd|none=> .nilIface)) w):
 callE P gA #[kT (kE b)] R w:=by
 have y:=hs.2.1;have U:=hs.2.2;refine jy.sound ?_
 repeat (first|refine aa ?_|refine h.tk λw h=>?_|refine⟨_,h.ldA,?_⟩|refine⟨_,_,_,h.ldA,?_⟩)
 rw[y,hd,aL (by omega)]
 by_cases g:d+1<l.length
 ·obtain⟨sb,sp,I,rfl,V⟩:=hs.split (by intro h;subst h;simp at g);refine ag (by simp;omega) ?_
  repeat (first|refine aa ?_|refine h.tk λw h=>?_|refine⟨_,h.ldA,?_⟩|refine⟨_,_,_,h.ldA,?_⟩)
  rw[y,hd,aL (by omega)];refine⟨by omega,by omega,?_⟩;rw[I];refine aa ?_;simp only[lL0,lO0,lC0];refine⟨l[d+1].bd,Sat.ld h (by first|assumption|(repeat (first|exact .head _|apply List.Mem.tail))) (fD (f:=0) (by decide) (lH0 g)),?_⟩;have:=E _ h;rw[lH0 g] at this;exact this
 ·have:=E _ h;rw[lV1 (by omega)] at this;exact af (by simp;omega) this
theorem ie {v:Value}{t:TypeId}(ht:t≠aB)(w:World):
 (Instr.typeAssert (.iface t v) bO aB true).run P w= .ok (.tuple #[kT none,hV false]) w:=by
 have g:P.underlying aB=some (.pointer gj):=by kernel_rfl
 exact vx (by rw[g];intro y h;cases h) g ht (i:=(P.info? aB).getD default) (by kernel_rfl) (by kernel_rfl) w
theorem ul {b d:Nat}{p:PS}{ob:List OB}{o:OB}{M:List ai}{t:TypeId}{v:Value}{l:Ln}(h:Sat σ w (p.at b::M++L))(hs:Stk p ob M)(hd:p.depth=d)(y:ob[d]? =some o)(hb:o.bd= .iface t v)(ht:t≠aB)(I:l.ok)(O:mD (l.strip 3 0).2.peek=false)(E: ∀w,Sat σ w (p.at b::M++L)->R (hQ (.tuple #[l.val,hV false])) w):callE P cm #[kT (kE b),l.val] R w:=by
 refine cQ.sound ?_;refine Sat.bx h λb1 w h=>?_
 refine Sat.bx h λg w h=>?_
 have h:Sat σ w (zLn g::l.at b1::(p.at b::M++L)):=h
 have h:Sat σ w (p.at b::M++(zLn g::l.at b1::L)):=h.re
 refine ro h hs hd λw h=>?_
 rw[y];dsimp only;refine⟨_,rfl,none,false,w,by rw[hb];exact ie ht w,af rfl (af rfl ?_)⟩;have h:Sat σ w (l.at b1::zLn g::p.at b::M++L):=h.re
 refine sg h I O λw h=>⟨_,rfl,af rfl ?_⟩
 repeat (first|refine aa ?_|refine h.tk λw h=>?_|refine⟨_,h.ldA,?_⟩|refine⟨_,_,_,h.ldA,?_⟩|refine h.stA 0 λw h=>?_|refine h.stA 1 λw h=>?_|refine h.stA 2 λw h=>?_|refine h.stA 3 λw h=>?_|refine h.stA 4 λw h=>?_|refine h.stA 5 λw h=>?_|refine h.stA 6 λw h=>?_|refine h.bx λb0 w h=>?_)
 exact E _ h.tail.tail

theorem rk {t u:TypeId}{v:Value}{y:Array (String × TypeId)}(g:P.underlying t=some (.interface y))(d:Nat)(w:World):
 (Op.equalIn (d+1) t .nilIface (.iface u v)).run P w= .ok false w:=by
 simp[Op.equalIn,run_underlying g]
theorem su {t u g:TypeId}{v I:Value}{O:Array (String × TypeId)}(E:P.underlying t=some (.interface O))(y:u≠g)(d:Nat)(w:World):
 (Op.equalIn (d+1) t (.iface u v) (.iface g I)).run P w= .ok false w:=by
 simp[Op.equalIn,run_underlying E,y]
theorem n4 {t e:TypeId}(g:P.underlying t=some (.pointer e))(q:Option Addr)(d:Nat)(w:World):
 (Op.equalIn (d+1) t (kT q) (kT none)).run P w= .ok q.isNone w:=by
 cases q<;>simp[Op.equalIn,run_underlying g]
theorem yv {t:TypeId}{a b:Value}{r:Bool}{w:World}{x g:Operand}(E:(eqGuard .eql t x g a b).run P w= .ok () w)(I:binOp .eql t a b=(do pure (hV (<-Op.equal t a b))))(h:(Op.equal t a b).run P w= .ok r w):(do eqGuard .eql t x g a b;binOp .eql t a b).run P w= .ok (hV r) w:=by
 rw[I];simp only[lX0,E,h,lK0];rfl
theorem yk {t u:TypeId}{v:Value}{E:Array (String × TypeId)}(g:P.underlying t=some (.interface E))(x I:Operand)(w:World):
 (do eqGuard .eql t x I .nilIface (.iface u v);binOp .eql t .nilIface (.iface u v)).run P w= .ok (hV false) w:=
 yv rfl rfl (rk g 9999 w)
theorem zG {t u g:TypeId}{v E:Value}{U:Array (String × TypeId)}(O:P.underlying t=some (.interface U))(I:u≠g)(x V:Operand)(w:World):
 (do eqGuard .eql t x V (.iface u v) (.iface g E);binOp .eql t (.iface u v) (.iface g E)).run P w= .ok (hV false) w:=
 yv rfl rfl (su O I 9999 w)
theorem u3 {t e:TypeId}(g:P.underlying t=some (.pointer e))(q:Option Addr)(x E:Operand)(w:World):
 (do eqGuard .eql t x E (kT q) (kT none);binOp .eql t (kT q) (kT none)).run P w= .ok (hV q.isNone) w:=
 yv rfl rfl (n4 g q 9999 w)
theorem uA:P.underlying bO=some (.interface ((match P.underlying bO with|some (.interface ms)=>ms|_=> #[]))):=by kernel_rfl
theorem ll:P.underlying ar=some (.pointer aM):=by kernel_rfl
theorem ly {b d:Nat}{p:PS}{ob:List OB}{o:OB}{M:List ai}{t:TypeId}{v:Value}{l:Ln}(h:Sat σ w (p.at b::M++L))(hs:Stk p (ob++ [o]) M)(hd:p.depth=d)(O:ob.length=d)(hb:o.bd= .iface t v)(ht:t≠ar)(U:l.ok)(I: ∀w,Sat σ w (p.at b::M++L)->R (hQ (.tuple #[l.val,hV false])) w):callE P cg #[kT (kE b),l.val] R w:=by
 have E:=hs.2.2;rw[lA0,lE0] at E;refine bM.sound ?_;refine Sat.bx h λb1 w h=>?_
 refine Sat.bx h λy w h=>?_
 refine Sat.bx h λg w h=>?_
 repeat (first|refine aa ?_|refine h.tk λw h=>?_|refine⟨_,h.ldA,?_⟩|refine⟨_,_,_,h.ldA,?_⟩|refine h.stA 0 λw h=>?_|refine h.stA 1 λw h=>?_|refine h.stA 2 λw h=>?_|refine h.stA 3 λw h=>?_|refine h.stA 4 λw h=>?_|refine h.stA 5 λw h=>?_|refine h.stA 6 λw h=>?_|refine h.bx λb0 w h=>?_)
 have h:Sat σ _ (l.at b0::(g,cel [hY 0] ba)::zLn y::l.at b1::(p.at b::M++L)):=h
 have h:Sat σ _ (p.at b::M++(l.at b0::(g,cel [hY 0] ba)::zLn y::l.at b1::L)):=h.re
 refine mA h hs hd (by omega) λw h=>?_
 rw[lV1 (by simp;omega)];refine⟨_,rfl,?_⟩;refine rC h hs hb (λw h=>?_) (λhc=>absurd hc ht);rw[if_neg ht];refine⟨_,rfl,false,w,yk uA _ _ w,af rfl ?_⟩;have h:Sat σ _ (zLn y::l.at b1::(g,cel [hY 0] ba)::l.at b0::(p.at b::M++L)):=h.re
 refine af rfl ?_
 repeat (first|refine aa ?_|refine h.tk λw h=>?_|refine⟨_,h.ldA,?_⟩|refine⟨_,_,_,h.ldA,?_⟩|refine h.stA 0 λw h=>?_|refine h.stA 1 λw h=>?_|refine h.stA 2 λw h=>?_|refine h.stA 3 λw h=>?_|refine h.stA 4 λw h=>?_|refine h.stA 5 λw h=>?_|refine h.stA 6 λw h=>?_|refine h.bx λb0 w h=>?_)
 have h:Sat σ _ (l.at y::l.at b1::(g,cel [hY 0] ba)::l.at b0::(p.at b::M++L)):=h
 exact I _ h.tail.tail.tail.tail

theorem wN {b nb:Nat}{E y:Option Addr}{l:Ln}{v:Int}{e:TypeId}(h:Sat σ w (l.at b::(nb,cel [hY v] e)::L))(V:l.ok)(g:(l.strip 3 0).2.peek≠96/\(l.strip 3 0).2.peek≠126)(U: ∀w v,Sat σ w (l.at b::(nb,cel [hY v] e)::L)->R (hQ (hV false)) w):
 callE P gh #[kT (kE b),kT E,kT y,kT (kE nb)] R w:=by
 refine bA.sound ?_
 repeat (first|refine aa ?_|refine h.tk λw h=>?_|refine⟨_,h.ldA,?_⟩|refine⟨_,_,_,h.ldA,?_⟩|refine h.stA 0 λw h=>?_|refine h.stA 1 λw h=>?_|refine h.stA 2 λw h=>?_|refine h.stA 3 λw h=>?_|refine h.stA 4 λw h=>?_|refine h.stA 5 λw h=>?_|refine h.stA 6 λw h=>?_|refine h.bx λb0 w h=>?_)
 have h:Sat σ _ (l.at b0::l.at b::(nb,cel [hY 0] e)::L):=h
 have fin: ∀(n:Nat) (t:Ln) w,t.ok->t.peek≠96/\t.peek≠126->Sat σ w (t.at b0::l.at b::(nb,cel [hY n] e)::L)->bA.k2 R (kE b) E y b0 w:=by
  intro n t w ht g h;refine my h (by first|assumption|(repeat (first|exact .head _|apply List.Mem.tail))) ht λw h=>⟨_,rfl,?_⟩
  rw[vf (d:=126) (n:=126) rfl g.2];exact af (vf (d:=96) rfl g.1) (af rfl (U _ _ h.tail))
 intro X I;have O: ∀k n (t:Ln) w,t.ok->k+n=3->(t.strip k n).2.peek≠96/\(t.strip k n).2.peek≠126->Sat σ w (t.at b0::l.at b::(nb,cel [hY n] e)::L)->
  X (kE b) E y (kE nb) b0 w:=by
  intro k n t w ht a6 g h
  induction k generalizing n t w with
  |zero=>
   refine I _ _ _ _ _ _ ?_
   repeat (first|refine aa ?_|refine h.tk λw h=>?_|refine⟨_,h.ldA,?_⟩|refine⟨_,_,_,h.ldA,?_⟩)
   exact af (by simp;omega) (fin n t w ht g h)
  |succ k W=>
   refine I _ _ _ _ _ _ ?_
   repeat (first|refine aa ?_|refine h.tk λw h=>?_|refine⟨_,h.ldA,?_⟩|refine⟨_,_,_,h.ldA,?_⟩)
   refine ag (by simp;omega) ?_;refine YtendaipfdnhnaaaGreatDoor.trimSp_ok (min:=1) (max:=1) h ht (by decide) (by decide) ?_;simp only[Ln.strip] at g;cases hs:t.trimSp 1 1 false with
   |none=>
    rw[hs] at g;exact λw h=>⟨_,rfl,af rfl (fin n t w ht g h)⟩
   |some t'=>
    rw[hs] at g;intro w h;refine⟨_,rfl,ag rfl ?_⟩
    repeat (first|refine aa ?_|refine h.tk λw h=>?_|refine⟨_,h.ldA,?_⟩|refine⟨_,_,_,h.ldA,?_⟩|refine h.stA 0 λw h=>?_|refine h.stA 1 λw h=>?_|refine h.stA 2 λw h=>?_|refine h.stA 3 λw h=>?_|refine h.stA 4 λw h=>?_|refine h.stA 5 λw h=>?_|refine h.stA 6 λw h=>?_|refine h.bx λb0 w h=>?_)
    rw[aL (by omega)] at h;exact W (n+1) t' _ (Ln.trimSp_ok ht hs) (by omega) g h
 exact O 3 0 l _ V rfl g h
theorem tz {q:Option Addr}{l:Ln}(h:Sat σ w L)(I:l.ok)(V:(l.strip 3 0).2.peek≠96/\(l.strip 3 0).2.peek≠126)(E: ∀w,Sat σ w L->R (hQ (.tuple #[l.val,hV false])) w):callE P kF #[kT q,l.val] R w:=by
 refine dW.sound ?_;refine Sat.bx h λb1 w h=>?_
 refine Sat.bx h λO w h=>?_
 refine Sat.bx h λg w h=>?_
 refine Sat.bx h λU w h=>?_
 refine Sat.bx h λy w h=>?_
 repeat (first|refine aa ?_|refine h.tk λw h=>?_|refine⟨_,h.ldA,?_⟩|refine⟨_,_,_,h.ldA,?_⟩|refine h.stA 0 λw h=>?_|refine h.stA 1 λw h=>?_|refine h.stA 2 λw h=>?_|refine h.stA 3 λw h=>?_|refine h.stA 4 λw h=>?_|refine h.stA 5 λw h=>?_|refine h.stA 6 λw h=>?_|refine h.bx λb0 w h=>?_)
 have h:Sat σ _ (l.at b0::(y,cel [hY 0] ba)::(U,cel [hX (bs [])] aq)::(g,cel [hX (bs [])] aq)::zLn O::l.at b1::L):=h
 refine wN h I V λw v h=>⟨_,rfl,?_⟩
 refine af rfl ?_
 repeat (first|refine aa ?_|refine h.tk λw h=>?_|refine⟨_,h.ldA,?_⟩|refine⟨_,_,_,h.ldA,?_⟩|refine h.stA 0 λw h=>?_|refine h.stA 1 λw h=>?_|refine h.stA 2 λw h=>?_|refine h.stA 3 λw h=>?_|refine h.stA 4 λw h=>?_|refine h.stA 5 λw h=>?_|refine h.stA 6 λw h=>?_|refine h.bx λb0 w h=>?_)
 exact E _ h.tail.tail.tail.tail.tail.tail

theorem Ie {t:TypeId}{a b:Value}{r:Bool}{w:World}{x g:Operand}(E:(eqGuard .neq t x g a b).run P w= .ok () w)(I:binOp .neq t a b=(do pure (hV (!(<-Op.equal t a b)))))(h:(Op.equal t a b).run P w= .ok r w):(do eqGuard .neq t x g a b;binOp .neq t a b).run P w= .ok (hV (!r)) w:=by
 rw[I];simp only[lX0,E,h,lK0];rfl
theorem jI {t e:TypeId}(g:P.underlying t=some (.pointer e))(q:Option Addr)(x E:Operand)(w:World):
 (do eqGuard .neq t x E (kT q) (kT none);binOp .neq t (kT q) (kT none)).run P w= .ok (hV (!q.isNone)) w:=
 Ie rfl rfl (n4 g q 9999 w)
structure Opt where
 ids:Bool
 strike:Bool
 task:Bool
 auto:Bool
 http:Bool
 table:Bool
 emoji:Bool
 dot:Bool
 dash:Bool
 quote:Bool
def Opt.cells (o:Opt):List Value:= [hV o.ids,hV o.strike,hV o.task,hV o.auto,hV o.http,hV o.table,hV o.emoji,hV o.dot,hV o.dash,hV o.quote]
abbrev Opt.at (b:Nat)(o:Opt):ai:=(b,cel o.cells wL)
theorem xx {b:Nat}{p:PS}{ob:List OB}{o:OB}{M:List ai}{t:TypeId}{v:Value}{l:Ln}(h:Sat σ w (p.at b::M++L))(hs:Stk p (ob++ [o]) M)(hb:o.bd= .iface t v)(hv:t=ar-> ∃q,v= kT q)(y:l.ok)(E:l.trimSp 4 4 false=none)(I: ∀w,Sat σ w (p.at b::M++L)->R (hQ (.tuple #[l.val,hV false])) w):callE P qh #[kT (kE b),l.val] R w:=by
 refine j2.sound ?_;refine Sat.bx h λb1 w h=>?_
 refine Sat.bx h λg w h=>?_
 repeat (first|refine aa ?_|refine h.tk λw h=>?_|refine⟨_,h.ldA,?_⟩|refine⟨_,_,_,h.ldA,?_⟩|refine h.stA 0 λw h=>?_|refine h.stA 1 λw h=>?_|refine h.stA 2 λw h=>?_|refine h.stA 3 λw h=>?_|refine h.stA 4 λw h=>?_|refine h.stA 5 λw h=>?_|refine h.stA 6 λw h=>?_|refine h.bx λb0 w h=>?_)
 have h:Sat σ _ (l.at b0::zLn g::l.at b1::(p.at b::M++L)):=h
 have h:Sat σ _ (p.at b::M++(l.at b0::zLn g::l.at b1::L)):=h.re
 have fin: ∀w,Sat σ w (l.at b0::(zLn g::l.at b1::(p.at b::M++L)))->j2.k1 R (kE b) b1 g b0 false w:=by
  intro w h;refine af rfl ?_
  repeat (first|refine aa ?_|refine h.tk λw h=>?_|refine⟨_,h.ldA,?_⟩|refine⟨_,_,_,h.ldA,?_⟩|refine h.stA 0 λw h=>?_|refine h.stA 1 λw h=>?_|refine h.stA 2 λw h=>?_|refine h.stA 3 λw h=>?_|refine h.stA 4 λw h=>?_|refine h.stA 5 λw h=>?_|refine h.stA 6 λw h=>?_|refine h.bx λb0 w h=>?_)
  have h:Sat σ _ (l.at b0::l.at g::l.at b1::(p.at b::M++L)):=h
  exact I _ h.tail.tail.tail
 refine rC h hs hb (λw h=>?_) hv;have h:Sat σ _ (l.at b0::(zLn g::l.at b1::(p.at b::M++L))):=h.re
 by_cases ht:t=ar
 ·obtain⟨q,rfl⟩:=hv ht;rw[if_pos ht];refine⟨q,rfl,q.isNone,w,u3 ll _ _ _ w,bh (λO=>?_) (λ_=>fin _ h)⟩;refine YtendaipfdnhnaaaGreatDoor.trimSp_ok (min:=4) (max:=4) h y (by decide) (by decide) ?_;rw[E];exact λw h=>⟨_,rfl,af rfl (fin _ h)⟩
 ·rw[if_neg ht];refine⟨none,rfl,_,w,u3 ll _ _ _ w,ag rfl ?_⟩;refine YtendaipfdnhnaaaGreatDoor.trimSp_ok (min:=4) (max:=4) h y (by decide) (by decide) ?_;rw[E];exact λw h=>⟨_,rfl,af rfl (fin _ h)⟩
variable {op:Opt}

def Ln.zero:Ln:=⟨0,0,0,[],0⟩
noncomputable def rowStr:Row P al aq 1 16:=
 ⟨(P.info? aq).getD default,((P.info? aq).bind (·.zero)).getD default,by kernel_rfl,by kernel_rfl,by kernel_rfl,by kernel_rfl,by kernel_rfl,by kernel_rfl,by decide⟩
def sd (y:Nat)(ts:List (List UInt8))(M:List ai):Prop:=
 ∃q c g,Sl 1 aq q ts.length c (ts.map λt=> hX (bs t)) g/\M=(y,cel [hT q ts.length c,kT none] aM)::g
theorem th {g:Nat}{ts:List (List UInt8)}{s:List UInt8}{y:Nat}{M:List ai}(h:Sat σ w (zLn y::M++L))(b3:sd g ts M)(b5:ts.length<1048576)(a6: ∀w U,sd g (ts++ [s]) U->Sat σ w (U++L)->R (hQ (.tuple #[Ln.zero.val,hV true])) w):
 d7.k5 R y (kE g) (bs s) w:=by
 obtain⟨q,c,W,a7,rfl⟩:=b3
 repeat (first|refine aa ?_|refine h.tk λw h=>?_|refine⟨_,h.ldA,?_⟩|refine⟨_,_,_,h.ldA,?_⟩)
 have h:Sat σ w (W++((g,cel [hT q ts.length c,kT none] aM)::zLn y::L)):=h.re
 refine Sat.app1 rowStr a7 h (v:= hX (bs s)) rfl (by simp[Value.cells,Value.oneCell']) (by kernel_rfl) (by omega) (by omega) (by decide) λO I w E V h=>?_
 have h:Sat σ w ((g,cel [hT q ts.length c,kT none] aM)::zLn y::(E++L)):=h.re
 repeat (first|refine aa ?_|refine h.tk λw h=>?_|refine⟨_,h.ldA,?_⟩|refine⟨_,_,_,h.ldA,?_⟩|refine h.stA 0 λw h=>?_|refine h.stA 1 λw h=>?_|refine h.stA 2 λw h=>?_|refine h.stA 3 λw h=>?_|refine h.stA 4 λw h=>?_|refine h.stA 5 λw h=>?_|refine h.stA 6 λw h=>?_|refine h.bx λb0 w h=>?_)
 have h:Sat σ _ ((g,cel [hT O (ts.length+1) I,kT none] aM)::zLn y::(E++L)):=h
 refine a6 _ ((g,cel [hT O (ts.length+1) I,kT none] aM)::E) ⟨O,I,E,?_,?_⟩ (h.less [zLn y])
 ·rw[lA0,lV0];exact V
 ·rw[lA0];rfl

theorem ir {f:FuncId}{y first g:Array Value}(h:callE P f (first++y++g) R w):
 de P (do let d <-Deferred.ofValue (.func (.func f) first g) y;invoke d.target d.args) R w:=
 h.imp (λh=>⟨f,_,w,h.1 _ _,h.2⟩) id
def newsF:List FuncId:= [kD,fF,cg,ra,cm,mg,kF,qh]
def newsC:List Value:=newsF.map λf=> .func (.func f) #[] #[]
theorem zl (h:Sat σ w L)(E: ∀w b e,Sat σ w ((b,cel newsC e)::L)->R (hQ (hT (kE b) 8 8)) w):callE P Dl #[] R w:=by
 refine Du.sound ?_;have y:P.underlying cS=some (.slice bH):=by kernel_rfl
 have g:=run_buildSlice (P:=P) w cS bH 8
  #[(0,.func (.func kD) #[] #[]),(1,.func (.func fF) #[] #[]),(2,.func (.func cg) #[] #[]),(3,.func (.func ra) #[] #[]),
   (4,.func (.func cm) #[] #[]),(5,.func (.func mg) #[] #[]),(6,.func (.func kF) #[] #[]),(7,.func (.func qh) #[] #[])] newsC.toArray
  ((P.info? bH).getD default) (((P.info? bH).bind (·.zero)).getD default) y (by kernel_rfl) (by kernel_rfl)
  (by rw[show ((P.info? bH).getD default).size=1 by kernel_rfl];decide) (by rw[show ((P.info? bH).getD default).size=1 by kernel_rfl];decide) (by kernel_rfl)
 exact⟨_,_,_,_,g,E _ _ _ (h.alc newsC _)⟩

def B3 (b:Nat)(p:PS)(M:List ai)(l:Ln)(f:FuncId):Prop:=
 ∀(σ:Out) (w:World) (L:List ai) (R:Ending->World->Prop),Sat σ w (p.at b::M++L)->(∀w,Sat σ w (p.at b::M++L)->R (hQ (.tuple #[l.val,hV false])) w)->
  callE P f #[kT (kE b),l.val] R w
def HDecl (l:Ln):Prop:=
 ∀(b:Nat) (p:PS) (ob:List OB) (o:OB) (M:List ai) (t:TypeId) (v:Value),Stk p (ob++ [o]) M->o.bd= .iface t v->t≠ar->B3 b p M l mg
theorem HDecl.of_peek {l:Ln}(y:l.ok)(E:(l.lead 3 false).peek≠60):HDecl l:=
 λ_ _ _ _ _ _ _ _ _ _ _ _ _ _ h g=>oB h y E g
def LDecl (l:Ln):Prop:=
 ∀(b d:Nat) (p:PS) (ob:List OB) (o:OB) (M:List ai) (t:TypeId) (v:Value),Stk p ob M->p.depth=d->ob[d]? =some o->o.bd= .iface t v->t≠aB->B3 b p M l cm
theorem LDecl.of_peek {l:Ln}(E:l.ok)(I:mD (l.strip 3 0).2.peek=false):LDecl l:=
 λ_ _ _ _ _ _ _ _ hs hd y hb ht _ _ _ _ h g=>ul h hs hd y hb ht E I g
structure Ln.plain (l:Ln):Prop where
 ok:l.ok
 blank:l.blank=false
 quote:l.quote=none
 heading:l.heading=none
 hr:l.isHR=false
 bullet:LDecl l
 html:HDecl l
 fence:(l.strip 3 0).2.peek≠96/\(l.strip 3 0).2.peek≠126
 pre:l.trimSp 4 4 false=none
theorem tu {i:Nat}{f:FuncId}(h:newsF[i]? =some f):newsC[i]? =some (.func (.func f) #[] #[]):=by
 rw[newsC,lI2,h];rfl
def nU (R:EP)(I E:BA)(w:World):Prop:=callE P mc #[hX I,hX E] (λe y=>∃g,e= hQ (hY g)/\R (hQ (hV (decide (g >= 0)))) y) w
theorem nU.sound {R x0 x1 w}(h:nU R x0 x1 w):callE P jn #[hX x0,hX x1] R w:=
 cF Tryz.func76 Tryz.call76 h
namespace kY
def bl1 (R:EP)(Xa:BA->BA->Int->WP)(E y:BA)(g:Int)(w:World):Prop:=br (decide ((i64.wrap (g+(y.size:Int)))<=(E.size:Int))) (0<=g/\g<=(i64.wrap (g+(y.size:Int)))/\(i64.wrap (g+(y.size:Int)))<=(E.size:Int)/\br ((E.extract (Int.toNat g) (Int.toNat (i64.wrap (g+(y.size:Int))))).toList==y.toList) (R (hQ (hY g)) w) (Xa E y (i64.wrap (g+1)) w)) (R (hQ (hY (-1))) w)
def l1 (R:EP)(E y:BA)(g:Int)(w:World):Prop:=∀X:BA->BA->Int->WP,(∀E y g w,bl1 R X E y g w->X E y g w)->X E y g w
end kY
def kY (R:EP)(y g:BA)(w:World):Prop:=kY.l1 R y g 0 w
theorem kY.sound {R x0 x1 w}(h:kY R x0 x1 w):callE P mc #[hX x0,hX x1] R w:=
 aG [(21,.lp [1,21,107] (kY.bl1 R) λXa=> [])] Tryz.func79 Tryz.call79 h

def lg (sub l:List UInt8):Nat->Nat->Option Nat
 |0,_=>none
 |k+1,i=>if i+sub.length<=l.length then (if (l.drop i).take sub.length=sub then some i else lg sub l k (i+1)) else none
def idx (l sub:List UInt8):Option Nat:=lg sub l (l.length+1) 0
def lG (l sub:List UInt8):Int:=match idx l sub with
 |some i=>(i:Int)
 |none=> -1
theorem kA {l sub:List UInt8}(a7:l.length<4611686018427387904)(hs:sub.length<4611686018427387904)(y:R (hQ (hY (lG l sub))) w):callE P mc #[hX (bs l),hX (bs sub)] R w:=by
 refine kY.sound ?_;intro X O;have V: ∀(k i:Nat),l.length<k+i->i<=l.length+1->(match lg sub l k i with|some i=>(i:Int)|none=> -1)=lG l sub->X (bs l) (bs sub) i w:=by
  intro k
  induction k with
  |zero=>
   intro i W hi g;have E:i64.wrap ((i:Int)+(sub.length:Int))=((i+sub.length:Nat):Int):=by rw[i64_in _ (by omega)];omega
   refine O _ _ _ _ (af (by rw[aF,aF,E];simp;omega) ?_);rw[<-g] at y;exact y
  |succ k a6=>
   intro i W hi g;have E:i64.wrap ((i:Int)+(sub.length:Int))=((i+sub.length:Nat):Int):=by rw[i64_in _ (by omega)];omega
   simp only[lg] at g
   by_cases U:i+sub.length<=l.length
   ·rw[if_pos U] at g;refine O _ _ _ _ (ag (by rw[aF,aF,E];simp;omega) ?_);rw[aF,aF,E];refine⟨by omega,by omega,by omega,?_⟩;rw[lC0,lC0,bV,cn,cn];have ht:(l.take (i+sub.length)).drop i=(l.drop i).take sub.length:=by rw[List.drop_take];congr 1;omega
    rw[ht]
    by_cases I:(l.drop i).take sub.length=sub
    ·rw[if_pos I] at g;rw[<-g] at y;exact ag (by simpa using I) y
    ·rw[if_neg I] at g;refine af (by simpa using I) ?_;rw[aL (by omega)];exact a6 (i+1) (by omega) (by omega) g
   ·rw[if_neg U] at g;refine O _ _ _ _ (af (by rw[aF,aF,E];simp;omega) ?_);rw[<-g] at y;exact y
 exact V (l.length+1) 0 (by omega) (by omega) rfl
theorem km {l sub:List UInt8}(y:l.length<4611686018427387904)(hs:sub.length<4611686018427387904)(g:R (hQ (hV (idx l sub).isSome)) w):callE P jn #[hX (bs l),hX (bs sub)] R w:=by
 refine nU.sound ?_;refine kA y hs ⟨_,rfl,?_⟩;have:decide (lG l sub >= 0)=(idx l sub).isSome:=by
  unfold lG;cases idx l sub with
  |none=>rfl
  |some i=>simp
 rw[this];exact g
theorem rT {c:UInt8}{l:List UInt8}(hc:c ∉ l): ∀k i,lg [c] l k i=none
 |0,i=>rfl
 |k+1,i=>by
  simp only[lg];split
  ·rename_i h;simp only[lE0] at h;rw[if_neg]
   ·exact rT hc k (i+1)
   ·intro y;have E:c∈(l.drop i).take 1:=by
     have g:(l.drop i).take 1= [c]:=y;rw[g];exact lN0.2 rfl
    exact hc (lZ4 (lA5 E))
  ·rfl
theorem lF {c:UInt8}{l:List UInt8}(hc:c ∉ l):idx l [c]=none:=rT hc _ _

def nG (P:Program)(t:TypeId)(y:String)(f:FuncId):Bool:=
 match P.info? t,P.underlying t with
 |some i,some (.pointer _)=>match i.methods.find? (·.name==y) with
  |some m=>m.path.isEmpty && (match m.func with|some (g,true)=>Nat.beq g f|_=>false)
  |none=>false
 |_,_=>false
theorem CU {P:Program}{t:TypeId}{y:String}{f:FuncId}(h:nG P t y f=true)(q:Option Addr)(E:Nat)(w:World):
 (Go.method (E+1) t (kT q) y).run P w= .ok (f,kT q) w:=by
 unfold nG at h;split at h
 ·rename_i i e hi O;split at h
  ·rename_i m V;simp only[lN1] at h;obtain⟨a6,h⟩:=h;split at h
   ·rename_i g U;have W:=lK1 h;subst W;have I:m.path= #[]:=by simpa using a6
    simp[Go.method,typeInfo,hi,V,I,Go.follow,U,Go.receiverAt,run_underlying O,Go.Place.get]
   ·cases h
  ·cases h
 ·cases h
theorem u7 (P:Program): ∃n,P.types.size+Made.depth=n+1:=by
 have h:0<Made.depth:=by decide
 exact⟨P.types.size+(Made.depth - 1),by omega⟩
theorem bq {t:TypeId}{y:String}{f:FuncId}{q:Option Addr}{g:Array Value}(I:nG P t y f=true)(h:callE P f (#[kT q]++g) R w):
 de P (callMethod (.iface t (kT q)) y g) R w:=by
 obtain⟨n,E⟩:=u7 P;have hr:=CU I q n w;have e:(callMethod (.iface t (kT q)) y g).run P w=(callFunc f (#[kT q]++g)).run P w:=by
  simp only[callMethod,lX0,run_program,lK0,E,hr]
 unfold de;rw[e];exact h.imp (λh=>⟨f,_,w,h.1 _ _,h.2⟩) id
theorem Sat.same {I:Out}{w g:World}{L L':List ai}(h:Sat σ w L)(O:Sat I g L'){b i:Nat}{o:Obj}(E:(b,o)∈L)(y:(b,o)∈L')(n:Nat):SameC w g (hZ b i) n:=by
 intro k _;rw[lL0];unfold World.cell?;rw[h.at_ _ E,O.at_ _ y]
theorem oD:nG P ah "pub-paratext/pub/rscmarkdown.pos" kf=true:=by kernel_rfl
theorem kO:nG P ah "pub-paratext/pub/rscmarkdown.blocks" iY=true:=by kernel_rfl
theorem xB:nG P ah "pub-paratext/pub/rscmarkdown.newText" fy=true:=by kernel_rfl
theorem un:nG P ar "pub-paratext/pub/rscmarkdown.build" iZ=true:=by kernel_rfl
theorem um:nG P iN "pub-paratext/pub/rscmarkdown.build" iX=true:=by kernel_rfl

def lS (c:UInt8):Bool:=c==32||c==9||c==10
def pt (l:List UInt8)(i:Nat):Nat:=l.length - ((l.drop i).dropWhile lS).length
theorem sY {l:List UInt8}{i:Nat}(a7:l.length<4611686018427387904)(hi:i<=l.length)(U:R (hQ (hY (pt l i))) w):callE P kS #[hX (bs l),hY i] R w:=by
 refine jd.sound ?_;intro X E;refine EA (l:=l) (X:=λi=>X (bs l) (i:Int) w) (p:=lS) (λi hi W O=>E _ _ _ ?_) i hi (λj a6 I V=>E _ _ _ ?_)
 ·refine⟨λ_=>⟨by omega,by simp;omega⟩,λ_=>⟨by omega,by simp;omega⟩,λ_=>⟨by omega,by simp;omega⟩,ag ?_ ?_⟩
  ·rw[dh hi 32 32 rfl,dh hi 9 9 rfl,dh hi 10 10 rfl]
   simpa[hi,lS] using W
  ·rw[aL (by omega)];exact O
 ·have y: ∀ {b:Bool},(decide ((j:Int)<((bs l).size:Int)) && b)=true->j<l.length:=by
   intro b h;simp only[lN1,decide_eq_true_eq,aF] at h;omega
  refine⟨λh=>⟨by omega,by simpa using h⟩,λh=>⟨by omega,by have:=y h;simp;omega⟩,λh=>⟨by omega,by have:=y h;simp;omega⟩,af ?_ ?_⟩
  ·by_cases g:j<l.length
   ·rw[dh g 32 32 rfl,dh g 9 9 rfl,dh g 10 10 rfl]
    simpa[g,lS] using I g
   ·simp[g]
  ·have:pt l i=j:=by
    rw[pt,<-V,lJ1];omega
   rw[<-this];exact U
theorem yW {t xt:TypeId}{v:Value}(g: ∀y,P.underlying t≠some (.interface y)){d:TypeDesc}(hd:P.underlying t=some d)(w:World):
 (Instr.typeAssert (.iface t v) xt t false).run P w= .ok v w:=by
 cases d<;>first|(exact absurd hd (g _))|simp[Instr.typeAssert,run_underlying hd]
theorem FE:P.underlying ah=some (.pointer g9):=by kernel_rfl
theorem HH (q:Option Addr)(w:World):(Instr.typeAssert (.iface ah (kT q)) mq ah false).run P w= .ok (kT q) w:=
 yW (by rw[FE];intro g h;cases h) FE w
theorem pY {q:Option Addr}{l:List UInt8}(a6:l.length<4611686018427387904)(hb:(l.dropWhile lS).head? ≠some 91)(W:R (hQ (.tuple #[hY 0,hV false])) w):
 callE P il #[.iface ah (kT q),hX (bs l)] R w:=by
 refine jR.sound ?_;refine sY (i:=0) a6 (lD2 _) ⟨_,rfl,q,w,HH q w,?_⟩;generalize V:pt l 0=j;have a7:(l.dropWhile lS).length<=l.length:=(lQ2 lS).length_le;have b3:j+(l.dropWhile lS).length=l.length:=by rw[<-V,pt,lO2];omega
 have E:l.drop j=l.dropWhile lS:=by
  obtain⟨pre,y⟩:=lW4 lS (l:=l);have I:pre.length=j:=by have:=congrArg List.length y;simp at this;omega
  exact(congrArg (List.drop j) y).symm.trans (by rw[<-I,lD4])
 refine kh.sound ?_;have U:(!(decide ((j:Int) >= ((bs l).size:Int))))=true->j<l.length:=by
  intro h;simp at h;exact h
 refine⟨λh=>⟨by omega,by have:=U h;simp;omega⟩,ag ?_ ⟨_,_,_,rfl,?_⟩⟩
 ·by_cases g:j<l.length
  ·have:l[j]≠91:=by
    intro O;apply hb;rw[<-E,lG1 g,O];rfl
   rw[bne,dh g 91 91 rfl];simp[this]
  ·simp;omega
 ·refine⟨λh=>by simp at h,ag rfl W⟩
def Fx (l:List UInt8):Prop:= ∀(R:Ending->World->Prop) (w:World) (q:Option Addr),R (hQ (.tuple #[hY 0,hV false])) w->callE P il #[.iface ah (kT q),hX (bs l)] R w
theorem EU {l:List UInt8}(y:l.length<4611686018427387904)(hb:(l.dropWhile lS).head? ≠some 91):Fx l:=λ_ _ _ g=>pY y hb g
theorem E2 {q:Option Addr}{c:Nat}{s sep:List UInt8}{g:List ai}(h:Sat σ w (g++L))(E:Sl 1 aq q 1 c [hX (bs s)] g)(y: ∀w,Sat σ w (g++L)->R (hQ (hX (bs s))) w):callE P gm #[hT q 1 c,hX (bs sep)] R w:=by
 refine bW.sound ?_;obtain⟨_,_,hz|⟨I,sp,rfl,rfl,_⟩⟩:=E
 ·omega
 ·refine af rfl (ag rfl ⟨by decide,by decide,aa ?_⟩);exact⟨_,Sat.ld h (.head _) rfl,y _ h⟩

theorem uL {b:Nat}{p:PS}{l:List OB}{o:OB}{M:List ai}(h:Sat σ w (p.at b::M++L))(hs:Stk p (l++ [o]) M)(I: ∀w,Sat σ w (p.at b::M++L)->R (hQ (.agg #[hY o.s,hY o.e])) w):callE P kf #[kT (kE b)] R w:=by
 obtain⟨sb,sp,E,rfl,O⟩:=hs.split (by simp);have g:=hs.2.1;have y:=hs.2.2;rw[lA0,lE0] at g y;refine kg.sound ?_;refine Sat.bx h λb1 w h=>?_
 repeat (first|refine aa ?_|refine h.tk λw h=>?_|refine⟨_,h.ldA,?_⟩|refine⟨_,_,_,h.ldA,?_⟩)
 rw[g,kP (by omega)];refine⟨by omega,by omega,?_⟩;rw[E];refine aa ?_;simp only[lL0,lO0,lC0,lL1];refine⟨_,Sat.ld h (by first|assumption|(repeat (first|exact .head _|apply List.Mem.tail))) (fD (f:=2) (by decide) (iO o)),?_⟩;refine⟨_,Sat.ld h (by first|assumption|(repeat (first|exact .head _|apply List.Mem.tail))) (fD (f:=3) (by decide) (iO o)),?_⟩
 repeat (first|refine aa ?_|refine h.tk λw h=>?_|refine⟨_,h.ldA,?_⟩|refine⟨_,_,_,h.ldA,?_⟩|refine h.stA 0 λw h=>?_|refine h.stA 1 λw h=>?_|refine h.stA 2 λw h=>?_|refine h.stA 3 λw h=>?_|refine h.stA 4 λw h=>?_|refine h.stA 5 λw h=>?_|refine h.stA 6 λw h=>?_|refine h.bx λb0 w h=>?_)
 exact I _ h.tail
noncomputable def GD:Row P kG d4 1 8:=
 ⟨(P.info? d4).getD default,((P.info? d4).bind (·.zero)).getD default,by kernel_rfl,by kernel_rfl,by kernel_rfl,by kernel_rfl,by kernel_rfl,by kernel_rfl,by decide⟩
def Txts (p:PS)(ts:List Nat)(M:List ai):Prop:=Sl 1 d4 p.tq p.tn p.tc (ts.map λt=> kT (kE t)) M/\p.tn=ts.length/\ts.length<1048576
def fL (t:Nat)(s e:Nat)(q:Option Addr)(n c:Nat)(raw:List UInt8):ai:=(t,cel [hY s,hY e,hT q n c,hX (bs raw)] Ca)
theorem uO {b s e:Nat}{p:PS}{ts:List Nat}{y:List ai}{raw:List UInt8}(h:Sat σ w (p.at b::y++L))(ht:Txts p ts y)(W:ts.length<1048575)(U: ∀w p' g t,p'= {p with tq:=p'.tq,tn:=ts.length+1,tc:=p'.tc}->Txts p' (ts++ [t]) g->Sat σ w (p'.at b::g++(fL t s e none 0 0 raw::L))->
  R (hQ (kT (kE t))) w):
 callE P fy #[kT (kE b),.agg #[hY s,hY e],hX (bs raw)] R w:=by
 have I:=ht.2.1;refine iF.sound ?_;refine Sat.bx h λb1 w h=>?_
 repeat (first|refine aa ?_|refine h.tk λw h=>?_|refine⟨_,h.ldA,?_⟩|refine⟨_,_,_,h.ldA,?_⟩)
 refine Sat.bx h λt w h=>?_
 repeat (first|refine aa ?_|refine h.tk λw h=>?_|refine⟨_,h.ldA,?_⟩|refine⟨_,_,_,h.ldA,?_⟩)
 have h:Sat σ w (fL t s e none 0 0 raw::(b1,cel [hY s,hY e] aH)::(p.at b::y++L)):=h
 have h:Sat σ w (y++(p.at b::fL t s e none 0 0 raw::L)):=h.less [(b1,cel [hY s,hY e] aH)]
 refine Sat.app1 GD ht.1 h (v:= kT (kE t)) rfl (by simp[Value.cells,Value.oneCell']) (by kernel_rfl) (by omega) (by omega) (by decide) λV O w g E h=>?_
 have h:Sat σ w (p.at b::g++(fL t s e none 0 0 raw::L)):=h.re
 rw[I] at E⊢
 let p':PS:= {p with tq:=V,tn:=ts.length+1,tc:=O}
 repeat (first|refine aa ?_|refine h.tk λw h=>?_|refine⟨_,h.ldA,?_⟩|refine⟨_,_,_,h.ldA,?_⟩|refine h.stA 0 λw h=>?_|refine h.stA 1 λw h=>?_|refine h.stA 2 λw h=>?_|refine h.stA 3 λw h=>?_|refine h.stA 4 λw h=>?_|refine h.stA 5 λw h=>?_|refine h.stA 6 λw h=>?_|refine h.bx λb0 w h=>?_)
 refine U _ p' g t rfl ⟨?_,by simp[p'],by simp;omega⟩ h;rw[lV0];exact E

theorem wI:P.underlying fC=some (.pointer sR):=by kernel_rfl
def lQ (nb s e t:Nat):ai:=(nb,cel [hY s,hY e,kT (kE t)] nu)
theorem Stk.of {p p':PS}{l:List OB}{M:List ai}(h:Stk p l M)(y:p'.stq=p.stq)(g:p'.stn=p.stn)(E:p'.stc=p.stc):Stk p' l M:=by
 unfold Stk at*;rw[y,g,E];exact h
theorem Txts.of {p p':PS}{l:List Nat}{M:List ai}(h:Txts p l M)(y:p'.tq=p.tq)(g:p'.tn=p.tn)(E:p'.tc=p.tc):Txts p' l M:=by
 unfold Txts at*;rw[y,g,E];exact h

theorem rl {t u:TypeId}{v:Value}{y:Array (String × TypeId)}(g:P.underlying t=some (.interface y))(d:Nat)(w:World):
 (Op.equalIn (d+1) t (.iface u v) .nilIface).run P w= .ok false w:=by
 simp[Op.equalIn,run_underlying g]
theorem n5 {t u:TypeId}{v:Value}{E:Array (String × TypeId)}(g:P.underlying t=some (.interface E))(x I:Operand)(w:World):
 (do eqGuard .eql t x I (.iface u v) .nilIface;binOp .eql t (.iface u v) .nilIface).run P w= .ok (hV false) w:=
 yv rfl rfl (rl g 9999 w)
theorem kC {t:TypeId}{v:Value}(ht:t≠dn)(w:World):
 (Instr.typeAssert (.iface t v) aO dn true).run P w= .ok (.tuple #[kT none,hV false]) w:=by
 have g:P.underlying dn=some (.pointer vo):=by kernel_rfl
 exact vx (by rw[g];intro y h;cases h) g ht (i:=(P.info? dn).getD default) (by kernel_rfl) (by kernel_rfl) w
theorem vC {P:Program}{t e:TypeId}{i:TypeInfo}(ht:P.underlying t=some (.slice e))(hi:P.info? e=some i)(b n c m:Nat)(y:m<=n)(hc:n<=c)(w:World):
 (Instr.sliceAt t (hT (kE b) n c) none (some (hY m)) none).run P w= .ok (hT (kE b) m c) w:=by
 have g: ¬ ((m:Int)<0):=by omega
 have E: ¬ ((c:Int)<(m:Int)):=by omega
 simp[Instr.sliceAt,Instr.slice,Instr.sliceBounds,run_underlying ht,sizeOf,typeInfo,hi,run_sliceBound w .i64 (m:Int) c .sliceAcap (by omega) (by omega),lL0]

noncomputable def rowBlock:Row P gl aO 1 16:=
 ⟨(P.info? aO).getD default,((P.info? aO).bind (·.zero)).getD default,by kernel_rfl,by kernel_rfl,by kernel_rfl,by kernel_rfl,by kernel_rfl,by kernel_rfl,by decide⟩
theorem qr {b:Nat}{p:PS}{ob:List OB}{par o:OB}{M IM:List ai}{inner:List Value}{t:TypeId}{v:Value}(Post:PS->List ai->TypeId->Option Addr->Prop)(h:Sat σ w (p.at b::M++(IM++L)))(hs:Stk p (ob++ [par]++ [o]) M)(c9:o.bd= .iface t v)(d0:Sl 1 aO par.q par.n par.c inner IM)(d3:par.n<1000000)(hb: ∀(a6:Ending->World->Prop) w,Sat σ w (p.at b::M++(IM++L))->
  (∀w g y E q,g.stq=p.stq->g.stn=p.stn->g.stc=p.stc->E≠dn->Post g y E q->Sat σ w (g.at b::M++(IM++y))->a6 (hQ (.iface E (kT q))) w)->
  de P (callMethod o.bd "pub-paratext/pub/rscmarkdown.build" #[.iface ah (kT (kE b))]) a6 w)
 (d2: ∀w p2 b3 U g y E q O I,Post g y E q->p2= {g with stn:=ob.length+1}->Stk p2 (ob++ [{par with q:=O,n:=par.n+1,c:=I}]) b3->
  Sl 1 aO O (par.n+1) I (inner++ [.iface E (kT q)]) U->Sat σ w (p2.at b::b3++(U++y))->R (hQ (.iface E (kT q))) w):
 callE P aJ #[kT (kE b)] R w:=by
 have c4:=hs.2.2;have V:=hs.2.1;obtain⟨sb,sp,b5,rfl,c3⟩:=hs.split (by simp);simp only[lA0,lE0] at V c4;refine aK.sound ?_;refine h.tk λw h=>?_
 refine aa (aa ?_);refine⟨_,_,_,h.ldA,?_⟩;refine⟨_,_,_,h.ldA,?_⟩;rw[V,kP (by omega)];refine⟨by omega,by omega,?_⟩;rw[b5];refine aa ?_;simp only[lL0,lO0,lC0];have b4:((ob++ [par])++ [o])[ob.length+1]? =some o:=by simp
 refine⟨o.bd,Sat.ld h (.tail _ (.head _)) (fD (f:=0) (by decide) b4),false,w,by rw[c9];exact n5 uA _ _ w,af rfl ?_⟩;refine aa ?_;refine⟨o.bd,Sat.ld h (.tail _ (.head _)) (fD (f:=0) (by decide) b4),?_⟩;refine hb _ w h λw g y E q c8 d1 a7 c1 b6 h=>⟨_,rfl,none,false,w,kC c1 w,af rfl ?_⟩
 have W:g.stq=kE sb:=by rw[c8,b5]
 have c2:g.stn=ob.length+1+1:=by rw[d1,V]
 refine h.tk λw h=>?_
 refine aa (aa ?_);refine⟨_,_,_,h.ldA,?_⟩;refine⟨_,_,_,h.ldA,?_⟩;rw[c2,kP (by omega),W];have b7:ob.length+1+1<=g.stc:=by have:=hs.1.2.1;rw[V] at this;rw[a7];exact this
 refine⟨_,_,_,λw=>vC rowOB.ht rowOB.hi sb (ob.length+1+1) g.stc (ob.length+1) (by omega) b7 w,?_⟩;refine aa ?_;refine h.stA 0 λw h=>?_
 let p2:PS:= {g with stq:=kE sb,stn:=ob.length+1}
 have b8:p2= {g with stn:=ob.length+1}:=by simp only[p2,<-W]
 have h:Sat σ w (p2.at b:: [(sb,cel (aP (ob++ [par])++(o.cells++sp)) az)]++(IM++y)):=by
  rw[jm,lD0] at h;exact h
 refine aa ?_;refine⟨_,_,_,h.ldA,?_⟩;refine ag (by simp[p2]) ?_;refine h.tk λw h=>?_
 refine aa (aa ?_);refine⟨_,_,_,h.ldA,?_⟩;refine⟨_,_,_,h.ldA,?_⟩;rw[show p2.stn=ob.length+1 from rfl,kP (by omega),show p2.stq=kE sb from rfl];refine⟨by omega,by omega,aa ?_⟩;simp only[lL0,lO0,lC0,lL1];refine⟨_,_,_,Sat.ld h (.tail _ (.head _)) (fD (f:=1) (by decide) (iO par)),?_⟩;have h:Sat σ _ (IM++(p2.at b::(sb,cel (aP (ob++ [par])++(o.cells++sp)) az)::y)):=h.re
 refine Sat.app1 rowBlock d0 h (v:= .iface E (kT q)) rfl (by simp[Value.cells,Value.oneCell']) (by kernel_rfl) (by omega) (by omega) (by decide) λO I w U b9 h=>?_
 have h:Sat σ _ (p2.at b::(sb,cel (aP (ob++ [par])++(o.cells++sp)) az)::(U++y)):=h.re
 refine Sat.st h (k:=1) rfl (by rw[lA0,aR,lA0,lE0];omega) trivial rfl λw h=>?_
 have e:=lO (l:=ob) (sp:=o.cells++sp) (o:=par) (o':= {par with q:=O,n:=par.n+1,c:=I}) (f:=1) (v:= hT O (par.n+1) I) (by decide) rfl
 have h:Sat σ w (p2.at b::(sb,cel (aP (ob++ [{par with q:=O,n:=par.n+1,c:=I}])++(o.cells++sp)) az)::(U++y)):=by
  rw[<-e];exact h
 have c5:Stk p2 (ob++ [{par with q:=O,n:=par.n+1,c:=I}]) [(sb,cel (aP (ob++ [{par with q:=O,n:=par.n+1,c:=I}])++(o.cells++sp)) az)]:=by
  refine Stk.mk' rfl ?_ (by simp[p2]) (by simp;omega)
  show _=g.stc*4
  rw[a7,<-c3];simp only[lA0,aR,lE0,OB.cells,lF0,lM1];omega
 refine d2 w p2 _ U g y E q O I b6 b8 c5 b9 h

def B1 (db s e:Nat)(q:Option Addr)(n c:Nat)(links:Option Nat):ai:=(db,cel [hY s,hY e,hT q n c,.map links] pj)
theorem xe {b:Nat}{E:Option Addr}{p:PS}{ob:List OB}{o:OB}{M:List ai}(h:Sat σ w (p.at b::M++L))(hs:Stk p (ob++ [o]) M)(g: ∀w db,Sat σ w (p.at b::M++(B1 db o.s o.e o.q o.n o.c p.links::L))->R (hQ (.iface df (kT (kE db)))) w):
 callE P iX #[kT E,.iface ah (kT (kE b))] R w:=by
 refine je.sound ?_;refine h.tk λw h=>?_
 refine⟨_,HH _,aa ?_⟩;refine⟨_,h.ldA,?_⟩;have h0:=h;refine bq oD ?_;refine uL h hs λw h=>⟨_,_,rfl,h0.same h (.head _) (.head _) 1,?_⟩
 have y:=h;refine bq kO ?_;refine oh h hs λw h=>⟨_,_,_,rfl,y.same h (.head _) (.head _) 1,?_⟩
 refine Sat.bx h λdb w h=>?_
 have h:Sat σ w (B1 db o.s o.e o.q o.n o.c p.links::(p.at b::M++L)):=h
 exact g w db (h.re)
theorem HI (q:Option Addr)(w:World):(Instr.typeAssert (.iface df (kT q)) aO df false).run P w= .ok (kT q) w:=by
 have g:P.underlying df=some (.pointer pj):=by kernel_rfl
 exact yW (by rw[g];intro y h;cases h) g w
theorem yp {b U:Nat}{p:PS}{o:OB}{M:List ai}(h:Sat σ w (p.at b::M++L))(hs:Stk p [o] M)(E:o.bd= .iface iN (kT (kE U)))(V: ∀w db,Sat σ w ({p with stn:=0,root:=kE db}.at b::M++(B1 db o.s o.e o.q o.n o.c p.links::L))->R (hQ (.iface df (kT (kE db)))) w):
 callE P aJ #[kT (kE b)] R w:=by
 have g:=hs.2.1;have O:Stk p ([]++ [o]) M:=hs;obtain⟨sb,sp,y,rfl,W⟩:=hs.split (by simp);simp only[lE0] at g;refine aK.sound ?_;refine h.tk λw h=>?_
 refine aa (aa ?_);refine⟨_,_,_,h.ldA,?_⟩;refine⟨_,_,_,h.ldA,?_⟩;rw[g,show i64.wrap (((1:Nat):Int) - 1)=((0:Nat):Int) from rfl];refine⟨by omega,by omega,?_⟩;rw[y];refine aa ?_;simp only[lL0,lO0,lC0,lS6];have a6:(([]:List OB)++ [o])[0]? =some o:=rfl
 refine⟨o.bd,Sat.ld h (.tail _ (.head _)) rfl,false,w,by rw[E];exact n5 uA _ _ w,af rfl ?_⟩;refine aa ?_;refine⟨o.bd,Sat.ld h (.tail _ (.head _)) rfl,?_⟩;rw[E];refine bq um ?_;refine xe (ob:= []) h O λw db h=>⟨_,rfl,none,false,w,kC (by decide) w,af rfl ?_⟩
 refine h.tk λw h=>?_
 refine aa (aa ?_);refine⟨_,_,_,h.ldA,?_⟩;refine⟨_,_,_,h.ldA,?_⟩;have I:1<=p.stc:=by have:=hs.1.2.1;rw[g] at this;exact this
 rw[g,show i64.wrap (((1:Nat):Int) - 1)=((0:Nat):Int) from rfl,y];refine⟨_,_,_,λw=>vC rowOB.ht rowOB.hi sb 1 p.stc 0 (by omega) I w,?_⟩;refine aa ?_;refine h.stA 0 λw h=>?_
 refine aa ?_;refine⟨_,_,_,h.ldA,?_⟩;refine af rfl ?_;refine⟨_,_,HI _ _,aa ?_⟩;refine h.stA 0 λw h=>?_
 refine V _ db ?_;have e:({p with stn:=0,root:=kE db}:PS)= {p with stq:=kE sb,stn:=0,root:=kE db}:=by rw[<-y]
 rw[e];exact h

noncomputable def rowInl:Row P ap aD 1 16:=
 ⟨(P.info? aD).getD default,((P.info? aD).bind (·.zero)).getD default,by kernel_rfl,by kernel_rfl,by kernel_rfl,by kernel_rfl,by kernel_rfl,by kernel_rfl,by decide⟩
def Inls (p:PS)(vs:List Value)(M:List ai):Prop:=Sl 1 aD p.lq p.ln p.lc vs M/\vs.length<4294967296
def rJ (b:Nat)(s:List UInt8):ai:=(b,cel [hX (bs s)] ov)
theorem wY {b:Nat}{p:PS}{i:Int}(h:Sat σ w (p.at b::L))(g: ∀w,Sat σ w ({p with em:=i}.at b::L)->R (hQ (.tuple #[])) w):
 callE P ik #[kT (kE b),hY i] R w:=by
 refine jN.sound ?_;refine aa ?_;refine h.stA 0 λw h=>?_
 exact g _ h
theorem DH {b:Nat}{p:PS}{i:Int}(h:Sat σ w (p.at b::L))(hi:i<=p.em)(g: ∀w,Sat σ w (p.at b::L)->R (hQ (.tuple #[])) w):
 callE P dv #[kT (kE b),hY i] R w:=by
 refine ip.sound ?_;refine aa ?_;refine⟨_,h.ldA,?_⟩;exact af (by simpa using hi) (g _ h)
theorem DG {b i e:Nat}{p:PS}{vs:List Value}{M:List ai}(h:Sat σ w (p.at b::M++L))(hv:Inls p vs M)(E:p.em=e)(hi:e<i)(b4:i<=p.s.length)(b3:vs.length<4294967295)(V: ∀w p' g nb,p'= {p with em:=i,lq:=p'.lq,ln:=vs.length+1,lc:=p'.lc}->Inls p' (vs++ [.iface bJ (kT (kE nb))]) g->
  Sat σ w (p'.at b::g++(rJ nb ((p.s.take i).drop e)::L))->R (hQ (.tuple #[])) w):
 callE P dv #[kT (kE b),hY i] R w:=by
 have O:p.ln=vs.length:=by have:=hv.1.1;omega
 refine ip.sound ?_;refine aa ?_;refine⟨_,h.ldA,?_⟩;rw[E];refine ag (by simpa using hi) ?_;refine h.tk λw h=>?_
 refine aa (aa (aa ?_));refine⟨_,_,_,h.ldA,?_⟩;refine⟨_,h.ldA,?_⟩;refine⟨_,h.ldA,?_⟩;rw[E];refine⟨by omega,by omega,by simp;omega,?_⟩;rw[lC0,lC0,bV];have h0:=h;refine Sat.bx h λnb w h=>?_
 refine⟨h0.same h (.head _) (.tail _ (.head _)) 1,?_⟩;have h:Sat σ w (M++(p.at b::rJ nb ((p.s.take i).drop e)::L)):=Sat.re (L:=rJ nb ((p.s.take i).drop e)::(p.at b::M++L)) h
 have a7:=h0;refine Sat.app1S rowInl hv.1 h (v:= .iface bJ (kT (kE nb))) rfl (by simp[Value.cells,Value.oneCell']) (by kernel_rfl) (by omega) (by omega) (by decide)
  (C:=λy=>SameC _ y _ 1) (λy X W=>Sat.same h W (b:=b) (o:=cel p.cells g9) (by simp) (by simp) 1) λa6 U w g I h=>?_
 have h:Sat σ w (p.at b::g++(rJ nb ((p.s.take i).drop e)::L)):=h.re
 let p':PS:= {p with em:=i,lq:=a6,ln:=p.ln+1,lc:=U}
 refine aa ?_;refine h.stA 0 λw h=>?_
 refine aa ?_;refine h.stA 0 λw h=>?_
 refine V _ p' g nb (by simp[p',O]) ⟨I,by simp;omega⟩ h
def fH (R:EP)(a6:OA)(w:World):Prop:=tk w λg=>aA a6 λa2=>aA a6 λa3=>∃E U I,g.cell? (a2.add 1)=some (hT E U I)/\∃b4 O b3,g.cell? (a3.add 1)=some (hT b4 O b3)/\∃W y,(Builtin.unsafeSliceData_ #[bL] qG #[hT E U I]).run P g= .ok (kT W) y/\SameC g y (a3.add 1) 1/\∃V a7,(Builtin.unsafeString_ #[qG,ba] aq #[kT W,hY (O:Int)]).run P y= .ok (hX V) a7/\R (hQ (hX V)) a7
theorem fH.sound {R x0 w}(h:fH R x0 w):callE P du #[kT x0] R w:=
 aG [(5,.dr (rpN [0,3,6,15,18,21,10,25,27,14,32,33]))] Tryz.func75 Tryz.call75 h
def eU (R:EP)(g:OA)(b7:Int)(w:World):Prop:=callE P cG #[kT g] (λe b3=>e= hQ (.tuple #[])/\aA g λa3=>∃y V E,b3.cell? (a3.add 1)=some (hT y V E)/\∃a6 W,∃I b5,(Instr.buildSlice bL 1 #[(0,.int .u8 b7)]).run P b3= .ok (hT a6 W I) b5/\∃a7 O,∃U b4,(Builtin.append_ #[bL,bL] bL #[hT y V E,hT a6 W I]).run P b5= .ok (hT a7 O U) b4/\aA g λa9=>stV b4 ((a9.add 1).add 0) (hT a7 O U) λb6=>R (.returned .nilIface) b6) w
theorem eU.sound {R x0 x1 w}(h:eU R x0 x1 w):callE P bT #[kT x0,.int .u8 x1] R w:=
 cF Tryz.func74 Tryz.call74 h
def eu (R:EP)(g:OA)(b3:BA)(w:World):Prop:=callE P cG #[kT g] (λe W=>e= hQ (.tuple #[])/\aA g λa3=>∃y O E,W.cell? (a3.add 1)=some (hT y O E)/\∃V U,∃I a6,(Builtin.append_ #[bL,aq] bL #[hT y O E,hX b3]).run P W= .ok (hT V U I) a6/\aA g λb4=>stV a6 ((b4.add 1).add 0) (hT V U I) λb5=>R (hQ (.tuple #[hY (b3.size:Int),.nilIface])) b5) w
theorem eu.sound {R x0 x1 w}(h:eu R x0 x1 w):callE P bz #[kT x0,hX x1] R w:=
 cF Tryz.func73 Tryz.call73 h
def eS (R:EP)(g:OA)(w:World):Prop:=aA g λa1=>∃I,w.cell? a1=some (kT I)/\∃b3 y,(do eqGuard .eql cT (.tmp 5) (.const (kT none)) (kT I) (kT none);binOp .eql cT (kT I) (kT none)).run P w= .ok (hV b3) y/\br b3 (∃W a6,(convert cT jB (kT g)).run P y= .ok (kT W) a6/\callE P fV #[kT W] (λe b6=>∃a7,e= hQ (kT a7)/\∃b4 V,(convert jB cT (kT a7)).run P b6= .ok (kT b4) V/\aA g λa11=>stV V (a11.add 0) (kT b4) λb5=>R (hQ (.tuple #[])) b5) a6) (aA g λa13=>∃E,y.cell? a13=some (kT E)/\∃O U,(do eqGuard .neq cT (.tmp 17) (.tmp 18) (kT E) (kT g);binOp .neq cT (kT E) (kT g)).run P y= .ok (hV O) U/\br O (False) (R (hQ (.tuple #[])) U))
theorem eS.sound {R x0 w}(h:eS R x0 w):callE P cG #[kT x0] R w:=
 aG [(23,.no)] Tryz.func103 Tryz.call103 h
def dP (R:EP)(I:BA)(E:Int)(w:World):Prop:=callE P dy #[hX I,.int .u8 E] (λe y=>∃g,e= hQ (hY g)/\R (hQ (hY g)) y) w
theorem dP.sound {R x0 x1 w}(h:dP R x0 x1 w):callE P fw #[hX x0,.int .u8 x1] R w:=
 cF Tryz.func232 Tryz.call232 h
def jb (R:EP)(I:BA)(E:Int)(w:World):Prop:=callE P fw #[hX I,.int .u8 E] (λe y=>∃g,e= hQ (hY g)/\R (hQ (hY g)) y) w
theorem jb.sound {R x0 x1 w}(h:jb R x0 x1 w):callE P iV #[hX x0,.int .u8 x1] R w:=
 cF Tryz.func178 Tryz.call178 h

noncomputable def rowU8:Row P bL dB 1 1:=
 ⟨(P.info? dB).getD default,((P.info? dB).bind (·.zero)).getD default,by kernel_rfl,by kernel_rfl,by kernel_rfl,by kernel_rfl,by kernel_rfl,by kernel_rfl,by decide⟩
def bc (l:List UInt8):List Value:=l.map λc=> .int .u8 (c.toNat:Int)
@[simp] theorem uc (l:List UInt8):(bc l).length=l.length:=by simp[bc]
theorem yw (a b:List UInt8):bc (a++b)=bc a++bc b:=by simp[bc]
theorem F8 {l:List UInt8}{j:Nat}(h:j<l.length):(bc l)[j]? =some (.int .u8 (l[j].toNat:Int)):=by simp[bc,h]
abbrev By (q:Option Addr)(n c:Nat)(l:List UInt8)(M:List ai):Prop:=Sl 1 dB q n c (bc l) M
theorem By.len {q:Option Addr}{n c:Nat}{l:List UInt8}{M:List ai}(h:By q n c l M):n=l.length:=by
 have:=h.1;rw[uc] at this;omega
theorem By.nil:By none 0 0 [] []:=Sl.nil 1 dB
theorem yu (s:List UInt8):Go.byteCells (bs s)=bc s:=by
 simp[Go.byteCells,bc,bs]
theorem By.appS {q:Option Addr}{n c:Nat}{l:List UInt8}{M:List ai}(b5:By q n c l M)(h:Sat σ w (M++L))(s:List UInt8)(h0:s≠ []\/q≠none)(hb:n+s.length<=1099511627776){K:Option Addr->Nat->Nat->World->Prop}(a6: ∀y g E I,By y (n+s.length) g (l++s) I->Sat σ E (I++L)->y≠none->c<=g->K y (n+s.length) g E):
 ∃y U g E,(Builtin.append_ #[bL,aq] bL #[hT q n c,hX (bs s)]).run P w= .ok (hT y U g) E/\K y U g E:=by
 have O:=Src.ofString (P:=P) (w:=w) (tx:=aq) (by kernel_rfl) (bs s)
 rw[aF,yu] at O;have W:0<s.length\/q≠none:=by
  rcases h0 with h|h
  ·exact .inl (lZ0.2 h)
  ·exact .inr h
 obtain⟨y,g,E,I,hr,V,b4,a7,b3⟩:=Sat.app rowU8 (ty:=bL) b5 h O W (by omega) (by omega);refine⟨y,_,g,E,hr,a6 y g E I ?_ b4 a7 b3⟩
 show Sl _ _ _ _ _ (bc (l++s)) _
 rw[yw];exact V
theorem By.app1 {q:Option Addr}{n c:Nat}{l:List UInt8}{M:List ai}(b5:By q n c l M)(h:Sat σ w (M++L))(k:UInt8)(hb:n+1<=1099511627776){K:Option Addr->Nat->Nat->World->Prop}(a7: ∀y g E I,By y (n+1) g (l++ [k]) I->Sat σ E (I++L)->K y (n+1) g E):
 ∃O V a6 U,(Instr.buildSlice bL 1 #[(0,.int .u8 (k.toNat:Int))]).run P w= .ok (hT O V a6) U/\
 ∃y W g E,(Builtin.append_ #[bL,bL] bL #[hT q n c,hT O V a6]).run P U= .ok (hT y W g) E/\K y W g E:=by
 refine Sat.app1 rowU8 b5 h (v:= .int .u8 (k.toNat:Int)) rfl (by simp[Value.cells,Value.oneCell']) (by kernel_rfl) (by omega) (by omega) (by decide) λy g E I b3 b4=>a7 y g E I ?_ b4
 show Sl _ _ _ _ _ (bc (l++ [k])) _
 rw[yw];exact b3
theorem By.str {q:Option Addr}{n c:Nat}{l:List UInt8}{M:List ai}(y:By q n c l M)(h:Sat σ w (M++L)):
 (convert bL aq (hT q n c)).run P w= .ok (hX (bs l)) w:=by
 have I:=y.len;subst I;obtain⟨_,_,⟨rfl,E,rfl,rfl⟩|⟨b,sp,rfl,rfl,O⟩⟩:=y
 ·obtain rfl:=lF1 E;exact Lib.run_convert_nil_bytes w _ _ dB 0 (by kernel_rfl) (by kernel_rfl) (by kernel_rfl)
 ·refine run_convert_bytes_back w _ _ dB (hZ b 0) c l (by kernel_rfl) (by kernel_rfl) (by kernel_rfl) λj g=>?_
  rw[Addr.add_zero_lit];refine h.ld (.head _) ?_;rw[lM0 (by rw[uc];exact g),F8 g]
theorem Cw {P:Program}{t e:TypeId}{i:TypeInfo}(ht:P.underlying t=some (.slice e))(hi:P.info? e=some i)(a:Option Addr)(n c l m:Nat)(g:l<=m)(y:m<=c)(w:World):
 (Instr.sliceAt t (hT a n c) (some (hY l)) (some (hY m)) none).run P w= .ok (hT (if c=l then a else a.map (·.add (l*i.size))) (m - l) (c - l)) w:=by
 simp[Instr.sliceAt,Instr.slice,Instr.sliceBounds,run_underlying ht,sizeOf,typeInfo,hi,run_sliceBound w .i64 (m:Int) c .sliceAcap (by omega) (by omega),run_sliceBound w .i64 (l:Int) m .sliceB (by omega) (by omega)]
theorem Ab {P:Program}{t e:TypeId}{i:TypeInfo}(ht:P.underlying t=some (.slice e))(hi:P.info? e=some i)(a:Option Addr)(n c l:Nat)(g:l<=n)(w:World):
 (Instr.sliceAt t (hT a n c) (some (hY l)) none none).run P w= .ok (hT (if c=l then a else a.map (·.add (l*i.size))) (n - l) (c - l)) w:=by
 simp[Instr.sliceAt,Instr.slice,Instr.sliceBounds,run_underlying ht,sizeOf,typeInfo,hi,run_sliceBound w .i64 (l:Int) n .sliceB (by omega) (by omega)]
theorem rE {P:Program}{t e:TypeId}{i:TypeInfo}(ht:P.underlying t=some (.slice e))(hi:P.info? e=some i)(a:Option Addr)(n c m:Nat)(y:m<=c)(w:World):
 (Instr.sliceAt t (hT a n c) none (some (hY m)) none).run P w= .ok (hT a m c) w:=by
 have g: ∀a:Addr,a.add 0=a:=λa=>rfl
 simp[Instr.sliceAt,Instr.slice,Instr.sliceBounds,run_underlying ht,sizeOf,typeInfo,hi,run_sliceBound w .i64 (m:Int) c .sliceAcap (by omega) (by omega),g]
theorem F5 {P:Program}(t ty:TypeId)(q:Option Addr)(n c:Nat)(e:TypeId)(ht:P.underlying t=some (.slice e))(w:World):(Builtin.cap_ #[t] ty #[hT q n c]).run P w= .ok (hY c) w:=by
 simp[Builtin.cap_,underlying,ht,goInt]
end Go.Proofs.YtendaipfdnhnaaaGreatDoor

set_option maxRecDepth 20000
namespace Go.Proofs.YtendaipfdnhnaaaGreatDoor
open Go.Proofs
noncomputable abbrev mp:Func:=Tryz.f139
theorem lZ:P.funcs[fV]? =some mp:=Tryz.func139
noncomputable abbrev jq:Func:=Tryz.f263
theorem iS:P.funcs[dy]? =some jq:=Tryz.func263
noncomputable abbrev x_internal_bytealg_MakeNoZero:Func:=Tryz.f270
theorem j3:P.funcs[ej]? =some x_internal_bytealg_MakeNoZero:=Tryz.func270
end Go.Proofs.YtendaipfdnhnaaaGreatDoor


namespace Go.Proofs.YtendaipfdnhnaaaGreatDoor
open Go.Proofs Go.IntWalk Go.RowKit
set_option maxRecDepth 20000
variable {σ:Out} {w:World} {L L':List ai} {R:Ending->World->Prop} {op:Opt}

theorem Dz {f:FuncId}{g:Func}{e:Array Value->Sem Value}{E:Array Value}{v:Value}{y:World}(O:P.funcs[f]? =some g)(I:(g.name== "runtime.NumGoroutine")=false)
 (hb:g.body.isNone=true) (U:Extern.findNext g=none) (V:Extern.find g=some e) (hr:(e E).run P w= .ok v y) (h:R (hQ v) y):callE P f E R w:=by
 refine .inr ⟨v,y,?_,h⟩;rw[run_callFunc_extern O I hb U V,hr];rfl
theorem zj {x:Value}(h:R (hQ x) w):callE P fV #[x] R w:=
 Dz (e:=Extern.AbiNoEscape.same) lZ (by kernel_rfl) (by kernel_rfl) (by kernel_rfl) (by kernel_rfl) rfl h
def idxB (l:List UInt8)(c:UInt8):Int:=Lib.indexByte l c
theorem xS {l:List UInt8}{c:UInt8}(h:R (hQ (hY (idxB l c))) w):callE P dy #[hX (bs l),.int .u8 (c.toNat:Int)] R w:=by
 refine Dz (e:=Extern.BytealgIndexByte.indexByte) iS (by kernel_rfl) (by kernel_rfl) (by kernel_rfl) (by kernel_rfl) (Lib.run_indexByteString _ _ w) ?_;have e:((c.toNat:Int)).toNat.toUInt8=c:=by simp
 rw[e];exact h
theorem vX {l:List UInt8}{c:UInt8}(h:R (hQ (hY (idxB l c))) w):callE P iV #[hX (bs l),.int .u8 (c.toNat:Int)] R w:=by
 refine jb.sound ?_;refine dP.sound ?_;refine xS ⟨_,rfl,⟨_,rfl,h⟩⟩
end Go.Proofs.YtendaipfdnhnaaaGreatDoor

namespace Go.Proofs.YtendaipfdnhnaaaGreatDoor
open Go.Proofs
theorem Hf {P:Program}{t:TypeId}{a b:Value}{r:Bool}{w:World}{x g:Operand}(E:(eqGuard .eql t x g a b).run P w= .ok () w)(I:binOp .eql t a b=(do pure (hV (<-Op.equal t a b))))(h:(Op.equal t a b).run P w= .ok r w):(do eqGuard .eql t x g a b;binOp .eql t a b).run P w= .ok (hV r) w:=by
 rw[I];simp only[lX0,E,h,lK0];rfl
theorem ws {P:Program}{t:TypeId}{a b:Value}{r:Bool}{w:World}{x g:Operand}(E:(eqGuard .neq t x g a b).run P w= .ok () w)(I:binOp .neq t a b=(do pure (hV (!(<-Op.equal t a b)))))(h:(Op.equal t a b).run P w= .ok r w):(do eqGuard .neq t x g a b;binOp .neq t a b).run P w= .ok (hV (!r)) w:=by
 rw[I];simp only[lX0,E,h,lK0];rfl
variable {P:Program}
theorem qp {t e:TypeId}(g:P.underlying t=some (.pointer e))(q:Option Addr)(w:World):(Op.equal t (kT q) (kT none)).run P w= .ok q.isNone w:=
 have h: ∀d,(Op.equalIn (d+1) t (kT q) (kT none)).run P w= .ok q.isNone w:=λd=>by
  cases q<;>simp[Op.equalIn,run_underlying g]
 h 9999
theorem kK {t e:TypeId}{x E:Operand}(g:P.underlying t=some (.pointer e))(q:Option Addr)(w:World):
 (do eqGuard .eql t x E (kT q) (kT none);binOp .eql t (kT q) (kT none)).run P w= .ok (hV q.isNone) w:=
 Hf rfl rfl (qp g q w)
theorem dU {t e:TypeId}{x E:Operand}(g:P.underlying t=some (.pointer e))(q:Option Addr)(w:World):
 (do eqGuard .neq t x E (kT q) (kT none);binOp .neq t (kT q) (kT none)).run P w= .ok (hV (!q.isNone)) w:=
 ws rfl rfl (qp g q w)
theorem uw {t e:TypeId}(g:P.underlying t=some (.pointer e)){i:TypeInfo}(hi:P.info? e=some i)(hs:i.size≠0)(b:Nat)(w:World):(Op.equal t (kT (kE b)) (kT (kE b))).run P w= .ok true w:=
 have h: ∀d,(Op.equalIn (d+1) t (kT (kE b)) (kT (kE b))).run P w= .ok true w:=λd=>by
  simp[Op.equalIn,run_underlying g,sizeOf,typeInfo,hi,hs,sameAddr]
 h 9999
theorem xz {t e:TypeId}{x E:Operand}(g:P.underlying t=some (.pointer e)){i:TypeInfo}(hi:P.info? e=some i)(hs:i.size≠0)(b:Nat)(w:World):
 (do eqGuard .neq t x E (kT (kE b)) (kT (kE b));binOp .neq t (kT (kE b)) (kT (kE b))).run P w= .ok (hV false) w:=
 ws rfl rfl (uw g hi hs b w)
theorem nE {t:TypeId}{O rs:Array TypeId}{U:Bool}{x V:Operand}(I:P.underlying t=some (.func O rs U))(k:FuncId)(f E:Array Value)(w:World):
 (do eqGuard .neq t x V (.func (.func k) f E) .nilFunc;binOp .neq t (.func (.func k) f E) .nilFunc).run P w= .ok (hV true) w:=by
 have h: ∀d,(Op.equalIn (d+1) t (.func (.func k) f E) .nilFunc).run P w= .ok false w:=λd=>by
  simp[Op.equalIn,run_underlying I]
 exact ws rfl rfl (h 9999)
theorem zm {t:TypeId}{I rs:Array TypeId}{E:Bool}{x O:Operand}(g:P.underlying t=some (.func I rs E))(w:World):
 (do eqGuard .neq t x O .nilFunc .nilFunc;binOp .neq t .nilFunc .nilFunc).run P w= .ok (hV false) w:=by
 have h: ∀d,(Op.equalIn (d+1) t .nilFunc .nilFunc).run P w= .ok true w:=λd=>by
  simp[Op.equalIn,run_underlying g]
 exact ws rfl rfl (h 9999)
end Go.Proofs.YtendaipfdnhnaaaGreatDoor


namespace Go.Proofs.YtendaipfdnhnaaaGreatDoor
open Go.Proofs Go.IntWalk Go.RowKit
set_option maxRecDepth 20000
variable {σ:Out} {w:World} {L L':List ai} {R:Ending->World->Prop} {op:Opt}

theorem By.raw {q:Option Addr}{n c:Nat}{l:List UInt8}{M:List ai}(h:By q n c l M):(q=none/\n=0/\c=0/\M= [])\/ ∃b sp,q=kE b/\M= [(b,cel (bc l++sp) dB)]/\(bc l++sp).length=c:=by
 obtain⟨_,_,h|⟨b,sp,y,g,E⟩⟩:=h
 ·exact .inl h
 ·exact .inr ⟨b,sp,y,g,by omega⟩

abbrev D0 (b:Nat)(p q:Option Addr)(n c:Nat):ai:=(b,cel [kT p,hT q n c] cq)
def Bld (b:Nat)(E:Bool)(l:List UInt8)(M:List ai):Prop:=
 ∃p q c y,M=D0 b p q l.length c::y/\By q l.length c l y/\(p=none\/p=kE b)/\q.isSome=E/\(E=true->0<c)
theorem DZ (b:Nat):Bld b false [] [(b,cel [kT none,hT none 0 0] cq)]:=⟨none,none,0,[],rfl,By.nil,.inl rfl,rfl,by simp⟩
theorem Sat.shape (h:Sat σ w L){b:Nat}{cs:List Value}{e:TypeId}(g:(b,cel cs e)∈L):w.shape? b=some (e,cs.length):=by
 have:=h.at_ _ g;simp only[cel] at this;simp[World.shape?,this]
theorem n8 {b:Nat}{p q:Option Addr}{n c:Nat}(h:Sat σ w (D0 b p q n c::L))(O:p=none\/p=kE b)(I: ∀w,Sat σ w (D0 b (kE b) q n c::L)->R (hQ (.tuple #[])) w):callE P cG #[kT (kE b)] R w:=by
 have g:P.underlying cT=some (.pointer cq):=by kernel_rfl
 have E:P.underlying jB=some .unsafePointer:=by kernel_rfl
 have hi:P.info? cq=some ((P.info? cq).getD default):=by kernel_rfl
 have hs:((P.info? cq).getD default).size=2:=by kernel_rfl
 have y:=h.shape (.head _);refine eS.sound ?_;refine aa ?_;refine⟨_,h.ldA,?_⟩;refine⟨_,_,kK g _ w,?_⟩;rcases O with rfl|rfl
 ·refine ag rfl ?_;refine⟨_,_,Lib.run_to_unsafe w (hZ b 0) g E hi (by rw[hs];decide) y (lQ3 _),?_⟩;refine zj ⟨_,rfl,?_⟩;refine⟨_,_,Lib.run_from_unsafe w (hZ b 0) E g hi y (by kernel_rfl),?_⟩;refine aa ?_;refine h.stA 0 λw h=>?_
  exact I _ h
 ·refine af rfl ?_;refine aa ?_;refine⟨_,h.ldA,?_⟩;refine⟨_,_,xz g hi (by rw[hs];decide) b w,af rfl ?_⟩;exact I _ h
theorem ub {b:Nat}{U:Bool}{l s:List UInt8}{M:List ai}(b5:Bld b U l M)(h:Sat σ w (M++L))(h0:s≠ []\/U=true)(hb:l.length+s.length<=1099511627776)(b4: ∀w y,Bld b true (l++s) y->Sat σ w (y++L)->R (hQ (.tuple #[hY s.length,.nilIface])) w):callE P bz #[kT (kE b),hX (bs s)] R w:=by
 obtain⟨p,q,c,b3,rfl,b6,b8,a7,hc⟩:=b5;refine eu.sound ?_;refine n8 h b8 λw h=>⟨rfl,?_⟩
 refine aa ?_;refine⟨_,_,_,h.ldA,?_⟩;have h:Sat σ w (b3++(D0 b (kE b) q l.length c::L)):=h.re
 have a6:s≠ []\/q≠none:=h0.imp id (λI=>by rw[<-a7] at I;intro h;rw[h] at I;cases I);refine b6.appS h s a6 hb λb7 O w y E h V b9=>?_
 have h:Sat σ w (D0 b (kE b) q l.length c::(y++L)):=h.re
 refine aa ?_;refine h.stA 0 λw h=>?_
 rw[aF];have W:0<O:=by
  rcases h0 with h0|h0
  ·have:=E.2.1;have:=lZ0.2 h0;omega
  ·have:=hc h0;omega
 rw[<-lA0] at E;refine b4 w (D0 b (kE b) b7 (l++s).length O::y) ⟨_,_,_,_,rfl,E,.inr rfl,Option.isSome_iff_ne_none.2 V,λ_=>W⟩ ?_;rw[lA0];exact h
theorem zO {b:Nat}{g:Bool}{l:List UInt8}{k:UInt8}{M:List ai}(a6:Bld b g l M)(h:Sat σ w (M++L))(hb:l.length+1<=1099511627776)(W: ∀w y,Bld b true (l++ [k]) y->Sat σ w (y++L)->R (.returned .nilIface) w):callE P bT #[kT (kE b),.int .u8 (k.toNat:Int)] R w:=by
 obtain⟨p,q,c,V,rfl,a7,b3,b4,hc⟩:=a6;refine eU.sound ?_;refine n8 h b3 λw h=>⟨rfl,?_⟩
 refine aa ?_;refine⟨_,_,_,h.ldA,?_⟩;have h:Sat σ w (V++(D0 b (kE b) q l.length c::L)):=h.re
 refine a7.app1 h k hb λI U w y E h=>?_
 have h:Sat σ w (D0 b (kE b) q l.length c::(y++L)):=h.re
 refine aa ?_;refine h.stA 0 λw h=>?_
 have O:I.isSome=true:=by
  rcases E.raw with ⟨_,b5,_,_⟩|⟨b6,sp,rfl,_,_⟩
  ·omega
  ·rfl
 refine W w (D0 b (kE b) I (l++ [k]).length U::y) ⟨_,_,_,_,rfl,by rw[lA0];exact E,.inr rfl,O,λ_=>by have:=E.2.1;omega⟩ ?_;rw[lA0];exact h
theorem Sat.freeze {b:Nat}{cs:List Value}{e:TypeId}(h:Sat σ w ((b,cel cs e)::L))(n:Nat):Sat σ (w.freeze (hZ b 0) n) L:=by
 unfold World.freeze;split
 ·exact h.tail
 ·refine⟨h.os,h.out,h.tail.nodup,λc hc=>?_⟩;have g:b≠c.1:=by
   intro y;have:=h.nodup;simp only[lP1,lX3] at this;exact this.1 (by rw[y];exact lU1.2 ⟨c,hc,rfl⟩)
  simp only[lV4,if_neg g];exact h.at_ _ (.tail _ hc)
theorem ua {b:Nat}{g:Bool}{l:List UInt8}{M:List ai}(a6:Bld b g l M)(h:Sat σ w (M++L))(b4:l.length<4611686018427387904)(I: ∀w,Sat σ w L->R (hQ (hX (bs l))) w):
 callE P du #[kT (kE b)] R w:=by
 obtain⟨p,q,c,b3,rfl,a7,b6,W,hc⟩:=a6;refine fH.sound ?_;refine h.tk λw h=>?_
 refine aa (aa ?_);refine⟨_,_,_,h.ldA,?_⟩;refine⟨_,_,_,h.ldA,?_⟩;rcases a7.raw with ⟨rfl,y,rfl,rfl⟩|⟨V,sp,rfl,rfl,b5⟩
 ·obtain rfl:=lF1 y;refine⟨_,_,Lib.run_unsafeSliceData_nil (P:=P) (w:=w) _ _ _ _,λ_ _=>rfl,?_⟩;refine⟨_,_,Lib.run_unsafeString_none (P:=P) (w:=w) _ _ _ _,I _ h.tail⟩
 ·refine⟨_,_,Lib.run_unsafeSliceData_row (P:=P) (w:=w) _ _ _ _ _ (by have:=hc (by rw[<-W];rfl);omega),λ_ _=>rfl,?_⟩;have E:Sat σ w ((V,cel (bc l++sp) dB)::L):=h.tail
  by_cases y:l= []
  ·subst y;refine⟨_,_,Lib.run_unsafeString_none (P:=P) (w:=w) _ _ _ _,I _ E.tail⟩
  ·refine⟨_,_,Lib.run_unsafeString_row (w:=w) qG ba aq dB (by kernel_rfl) (by kernel_rfl) V _ (E.shape (.head _)) l y (by simp) (by omega) (λj x U=>?_),I _ (E.freeze _)⟩;rw[Addr.add_zero_lit];have O:=(lJ0.1 U).1;refine E.ld (.head _) ?_;rw[lM0 (by rw[uc];exact O),F8 O];rw[(lJ0.1 U).2]

def ab (s:List UInt8):List UInt8->List UInt8:=λl=>l++s

theorem D6 {t ty e:TypeId}{bytes:Nat}(r:Row P t e 1 bytes){b k c:Nat}{cs:List Value}(h:Sat σ w ((b,cel cs e)::L))(b3:k<cs.length)(hc:k<c){v:Value}(hv:v.cells= #[v])(b9:v.oneCell'=true)(b5:Instr.fill (λi=>some (i*1,1)) ((Array.range (1*1)).map (r.z.cells[· %r.z.cells.size]!)) [(0,v)]=some v.cells){K:Option Addr->Nat->Nat->World->Prop}{C:World->Prop}(b8: ∀g X,Sat σ g (X::((b,cel cs e)::L))->C g)(c4: ∀a7,Sat σ a7 ((b,cel (cs.set k v) e)::L)->K (kE b) (k+1) c a7):
 ∃I O W g,(Instr.buildSlice t 1 #[(0,v)]).run P w= .ok (hT I O W) g/\C g/\
  ∃b4 V U a6,(Builtin.append_ #[t,t] ty #[hT (kE b) k c,hT I O W]).run P g= .ok (hT b4 V U) a6/\K b4 V U a6:=by
 have b6:=run_buildSlice (P:=P) w t e 1 #[(0,v)] v.cells r.i r.z r.ht r.hi r.hz (by rw[r.hs];omega) (by rw[r.hs];omega) (by rw[r.hs];exact b5)
 refine⟨_,_,_,_,b6,?_⟩;have y:=h.alc v.cells.toList e;have c3:YtendaipfdnhnaaaGreatDoor.alc w v.cells.toList.toArray e=w.alloc (.cells v.cells e):=by rw[lE4];rfl
 rw[c3] at y;generalize c5:w.alloc (.cells v.cells e)=g at y⊢;generalize w.heap.size=nb at y⊢;rw[hv] at y;have hs:Src P 1 t (hT (kE nb) 1 1) 1 [v] g:=by
  refine Src.ofSlice g r.ht _ 1 1 _ (by simp) (λj u c1=>?_) (by simp[b9]);rw[show (Addr.add (hZ nb 0) j)=⟨nb,j,none⟩ from Addr.add_zero_lit nb j];exact y.ld (lZ1 ..) c1
 have b7:Src P r.i.size t (hT (kE nb) 1 1) 1 [v] g:=by rw[r.hs];exact hs
 refine⟨b8 _ _ y,_,_,_,_,run_append_room_src g t t ty e r.i r.ht r.hi b 0 k c _ 1 [v] b7 (by omega) ?_ ?_,c4 _ ?_⟩
 ·intro j E;simp at E;subst E;rw[r.hs,lO0,lA1,lL1,y.ld (.tail _ (.head _)) (lH0 b3)];rfl
 ·exact λj E=>y.not_frozen (.tail _ (.head _))
 ·rw[r.hs];have hb:Sat σ g ((b,cel cs e)::(nb,cel [v] e)::L):=y.up1
  have:=rH hb (0+k*1) [v] (by simp;omega);rw[lO0,lA1] at this⊢;have c2:cs.take k++ [v]++cs.drop (k+1)=cs.set k v:=by
   rw[lO4,if_pos b3];simp
  rw[show [v].length=1 from rfl,c2] at this;exact this.less [(nb,cel [v] e)]
theorem wt {t ty e:TypeId}{bytes:Nat}(r:Row P t e 1 bytes){b k c:Nat}{cs:List Value}(h:Sat σ w ((b,cel cs e)::L))(b6:k<cs.length)(hc:k<c){v:Value}(hv:v.cells= #[v])(O:v.oneCell'=true)(b3:Instr.fill (λi=>some (i*1,1)) ((Array.range (1*1)).map (r.z.cells[· %r.z.cells.size]!)) [(0,v)]=some v.cells){K:Option Addr->Nat->Nat->World->Prop}(b4: ∀a6,Sat σ a6 ((b,cel (cs.set k v) e)::L)->K (kE b) (k+1) c a6):
 ∃g E I y,(Instr.buildSlice t 1 #[(0,v)]).run P w= .ok (hT g E I) y/\
  ∃W a7 V U,(Builtin.append_ #[t,t] ty #[hT (kE b) k c,hT g E I]).run P y= .ok (hT W a7 V) U/\K W a7 V U:=by
 obtain⟨g,E,I,y,O,_,b5⟩:=D6 (ty:=ty) r h b6 hc hv O b3 (C:=λ_=>True) (λ_ _ _=>trivial) b4;exact⟨g,E,I,y,O,b5⟩
inductive Inl where
 |plain (s:List UInt8)
 |openP (s:List UInt8) (i:Nat)
 |emphP (s:List UInt8) (co cc:Bool) (i n:Int)
 |esc (s:List UInt8)
 |code (s:List UInt8)
 |strong (m:List UInt8) (ks:List Inl)
 |del (m:List UInt8) (ks:List Inl)
 |emph (m:List UInt8) (ks:List Inl)
 |link (ks:List Inl) (url title:List UInt8) (tc:UInt8) (corner:Bool)
 |image (ks:List Inl) (url title:List UInt8) (tc:UInt8) (corner:Bool)
 |auto (text url:List UInt8)
 |tag (s:List UInt8)
 |hard
 |soft
 |task (b:Bool)
def iu (t:TypeId)(b:Nat):Value:= .iface t (kT (kE b))
mutual
def InlAt:Inl->Value->List ai->Prop
 | .plain s,v,M=> ∃b cs e,v=iu bJ b/\M= [(b,cel (hX (bs s)::cs) e)]
 | .openP s i,v,M=> ∃b e,v=iu aQ b/\M= [(b,cel [hX (bs s),hY i] e)]
 | .emphP s co cc i n,v,M=> ∃b e,v=iu aT b/\M= [(b,cel [hX (bs s),hV co,hV cc,hY i,hY n] e)]
 | .esc s,v,M=> ∃b e,v=iu lr b/\M= [(b,cel [hX (bs s)] e)]
 | .code s,v,M=> ∃b e,v=iu pP b/\M= [(b,cel [hX (bs s)] e)]
 | .strong m ks,v,M=> ∃b e q n c vs RM KM,v=iu fK b/\M=(b,cel [hX (bs m),hT q n c] e)::(RM++KM)/\Sl 1 aD q n c vs RM/\InlsAt ks vs KM
 | .del m ks,v,M=> ∃b e q n c vs RM KM,v=iu vn b/\M=(b,cel [hX (bs m),hT q n c] e)::(RM++KM)/\Sl 1 aD q n c vs RM/\InlsAt ks vs KM
 | .emph m ks,v,M=> ∃b e q n c vs RM KM,v=iu jr b/\M=(b,cel [hX (bs m),hT q n c] e)::(RM++KM)/\Sl 1 aD q n c vs RM/\InlsAt ks vs KM
 | .link ks u t tc k,v,M=> ∃b e q n c vs RM KM,v=iu l6 b/\M=(b,cel [hT q n c,hX (bs u),hX (bs t),.int .u8 tc.toNat,hV k] e)::(RM++KM)/\Sl 1 aD q n c vs RM/\InlsAt ks vs KM
 | .image ks u t tc k,v,M=> ∃b e q n c vs RM KM,v=iu l7 b/\M=(b,cel [hT q n c,hX (bs u),hX (bs t),.int .u8 tc.toNat,hV k] e)::(RM++KM)/\Sl 1 aD q n c vs RM/\InlsAt ks vs KM
 | .auto t u,v,M=> ∃b e,v=iu mr b/\M= [(b,cel [hX (bs t),hX (bs u)] e)]
 | .tag s,v,M=> ∃b e,v=iu nv b/\M= [(b,cel [hX (bs s)] e)]
 | .hard,v,M=> ∃b e,v=iu lN b/\M= [(b,cel [] e)]
 | .soft,v,M=> ∃b e,v=iu jY b/\M= [(b,cel [] e)]
 | .task k,v,M=> ∃b e,v=iu sS b/\M= [(b,cel [hV k] e)]
def InlsAt:List Inl->List Value->List ai->Prop
 | [],vs,M=>vs= []/\M= []
 |t::ts,vs,M=> ∃v vs' M1 M2,vs=v::vs'/\M=M1++M2/\InlAt t v M1/\InlsAt ts vs' M2
end
theorem InlsAt.append: ∀ {a b:List Inl} {vs us:List Value} {M N:List ai},InlsAt a vs M->InlsAt b us N->InlsAt (a++b) (vs++us) (M++N)
 | [],b,vs,us,M,N,h1,h2=>by obtain⟨rfl,rfl⟩:=h1;exact h2
 |t::a,b,vs,us,M,N,h1,h2=>by
  obtain⟨v,g,y,O,rfl,rfl,I,E⟩:=h1;exact⟨v,g++us,y,O++N,rfl,by simp,I,E.append h2⟩
theorem InlsAt.split: ∀ {a b:List Inl} {vs:List Value} {M:List ai},InlsAt (a++b) vs M-> ∃g E y I,vs=g++E/\M=y++I/\InlsAt a g y/\InlsAt b E I
 | [],b,vs,M,h=>⟨[],vs,[],M,rfl,rfl,⟨rfl,rfl⟩,h⟩
 |t::a,b,vs,M,h=>by
  obtain⟨v,b3,y,I,rfl,rfl,a6,W⟩:=h;obtain⟨g,E,O,a7,rfl,rfl,V,U⟩:=W.split;exact⟨v::g,E,y++O,a7,rfl,by simp,⟨v,g,y,O,rfl,rfl,a6,V⟩,U⟩
theorem InlsAt.one {t:Inl}{v:Value}{M:List ai}(h:InlAt t v M):InlsAt [t] [v] M:=⟨v,[],M,[],rfl,by simp,h,rfl,rfl⟩
theorem InlsAt.length: ∀ {a:List Inl} {vs:List Value} {M:List ai},InlsAt a vs M->vs.length=a.length
 | [],vs,M,h=>by rw[h.1];rfl
 |t::a,vs,M,h=>by
  obtain⟨v,y,E,O,rfl,rfl,I,g⟩:=h;simp[g.length]
def Inl.ty:Inl->TypeId
 | .plain _=>bJ| .openP _ _=>aQ| .emphP _ _ _ _ _=>aT| .esc _=>lr| .code _=>pP| .strong _ _=>fK| .del _ _=>vn| .emph _ _=>jr
 | .link _ _ _ _ _=>l6| .image _ _ _ _ _=>l7| .auto _ _=>mr| .tag _=>nv| .hard=>lN| .soft=>jY| .task _=>sS
theorem InlAt.ptr {t:Inl}{v:Value}{M:List ai}(h:InlAt t v M): ∃b cs e g,v=iu t.ty b/\M=(b,cel cs e)::g:=by
 cases t<;>first
  |(obtain⟨b,cs,e,rfl,rfl⟩:=h;exact⟨b,_,_,[],rfl,rfl⟩)
  |(obtain⟨b,e,rfl,rfl⟩:=h;exact⟨b,_,_,[],rfl,rfl⟩)
  |(obtain⟨b,e,q,n,c,vs,RM,KM,rfl,rfl,_⟩:=h;exact⟨b,_,_,_,rfl,rfl⟩)
variable {G:List UInt8->List Inl}

theorem ou:P.underlying aQ=some (.pointer rA):=by kernel_rfl
theorem sB:P.underlying aT=some (.pointer lm):=by kernel_rfl
theorem eX:P.underlying bJ=some (.pointer ov):=by kernel_rfl
theorem qJ {t:TypeId}{v:Value}(ht:t≠aQ)(w:World):(Instr.typeAssert (.iface t v) aD aQ true).run P w= .ok (.tuple #[kT none,hV false]) w:=
 vx (by rw[ou];intro g h;cases h) ou ht (i:=(P.info? aQ).getD default) (by kernel_rfl) (by kernel_rfl) w
theorem qK {t:TypeId}{v:Value}(ht:t≠aT)(w:World):(Instr.typeAssert (.iface t v) aD aT true).run P w= .ok (.tuple #[kT none,hV false]) w:=
 vx (by rw[sB];intro g h;cases h) sB ht (i:=(P.info? aT).getD default) (by kernel_rfl) (by kernel_rfl) w
theorem pk {t:TypeId}{v:Value}(ht:t≠bJ)(w:World):(Instr.typeAssert (.iface t v) aD bJ true).run P w= .ok (.tuple #[kT none,hV false]) w:=
 vx (by rw[eX];intro g h;cases h) eX ht (i:=(P.info? bJ).getD default) (by kernel_rfl) (by kernel_rfl) w
theorem pm {v:Value}(w:World):(Instr.typeAssert (.iface aQ v) aD aQ true).run P w= .ok (.tuple #[v,hV true]) w:=
 o7 (by rw[ou];intro g h;cases h) ou w
theorem sW {v:Value}(w:World):(Instr.typeAssert (.iface aT v) aD aT true).run P w= .ok (.tuple #[v,hV true]) w:=
 o7 (by rw[sB];intro g h;cases h) sB w
theorem wT {v:Value}(w:World):(Instr.typeAssert (.iface bJ v) aD bJ true).run P w= .ok (.tuple #[v,hV true]) w:=
 o7 (by rw[eX];intro g h;cases h) eX w
theorem Bs (t:TypeId)(q:Option Addr):Instr.fill (λi=>some (i*1,1)) ((Array.range (1*1)).map (rowInl.z.cells[· %rowInl.z.cells.size]!)) [(0,.iface t (kT q))]=some #[.iface t (kT q)]:=by kernel_rfl
theorem Sl.loadAt {q:Option Addr}{n c j:Nat}{e:TypeId}{vs:List Value}{RM:List ai}{v:Value}{K:Addr->Prop}(I:Sl 1 e q n c vs RM)(h:Sat σ w (RM++L))(g:vs[j]? =some v)(y: ∀b,q=kE b->w.cell? (hZ b j)=some v->K (hZ b 0)):aA q K:=by
 obtain⟨O,_,⟨rfl,rfl,_,_⟩|⟨E,sp,rfl,rfl,_⟩⟩:=I
 ·have:=(lJ0.1 g).1;omega
 ·refine aa (y E rfl (h.ld (.head _) ?_));rw[lM0 (lJ0.1 g).1];exact g
namespace cD
def k1 (R:EP)(y:OA)(a6:Int)(w:World):Prop:=tk w λg=>aA y λa4=>aA y λa5=>∃V O I,g.cell? (a4.add 1)=some (hT V O I)/\∃b3 U b4,g.cell? (a5.add 1)=some (hT b3 U b4)/\∃W E,(Builtin.cap_ #[bL] ba #[hT V O I]).run P g= .ok (hY W) E/\SameC g E (a5.add 1) 1/\br (decide ((i64.wrap (W - (U:Int)))<a6)) (callE P jA #[kT y,hY a6] (λe a7=>e= hQ (.tuple #[])/\R (hQ (.tuple #[])) a7) E) (False)
end cD
def cD (R:EP)(y:OA)(g:Int)(w:World):Prop:=callE P cG #[kT y] (λe E=>e= hQ (.tuple #[])/\br (decide (g<0)) (False) (cD.k1 R y g E)) w
theorem cD.sound {R x0 x1 w}(h:cD R x0 x1 w):callE P eV #[kT x0,hY x1] R w:=
 aG [(21,.no),(7,.mk [2,27] (cD.k1 R)),(11,.dr (rpN [0,3,6,15,18,21,33,10,25,27,14,30,36])),(31,.no)] Tryz.func223 Tryz.call223 h
def gu (R:EP)(y:OA)(d0:Int)(w:World):Prop:=tk w λg=>aA y λa2=>aA y λa3=>∃b4 b9 b3,g.cell? (a2.add 1)=some (hT b4 b9 b3)/\∃c3 b5 c9,g.cell? (a3.add 1)=some (hT c3 b5 c9)/\∃c2 E,(Builtin.cap_ #[bL] ba #[hT b4 b9 b3]).run P g= .ok (hY c2) E/\SameC g E (a3.add 1) 1/\callE P ej #[hY (i64.wrap ((i64.wrap (2*c2))+d0))] (λe V=>∃b6 b8 b7,e= hQ (hT b6 b8 b7)/\SameC E V (a3.add 1) 1/\∃O I U,(∀w,(Instr.sliceAt bL (hT b6 b8 b7) none (some (hY (b5:Int))) none).run P w= .ok (hT O I U) w)/\aA y λa11=>∃a6 a7 W,V.cell? (a11.add 1)=some (hT a6 a7 W)/\∃c5 c1,(Builtin.copy_ #[bL,bL] ba #[hT O I U,hT a6 a7 W]).run P V= .ok (hY c5) c1/\aA y λc4=>stV c1 ((c4.add 1).add 0) (hT O I U) λc8=>R (hQ (.tuple #[])) c8) E
theorem gu.sound {R x0 x1 w}(h:gu R x0 x1 w):callE P jA #[kT x0,hY x1] R w:=
 aG [(2,.dr (rpN [0,3,6,18,27,30,33,10,37,39,14,15,21,26,42,45]))] Tryz.func257 Tryz.call257 h

theorem vQ {n:Nat}(V:n<=1099511627776)(h:Sat σ w L)(O: ∀w b cs,n<=cs.length->cs.length<=9223372036854775807->Sat σ w ((b,cel cs dB)::L)->R (hQ (hT (kE b) n cs.length)) w):
 callE P ej #[hY n] R w:=by
 obtain⟨cs,hr,E,I⟩:=Lib.run_makeNoZero (P:=P) w x_internal_bytealg_MakeNoZero.params bL dB rowU8.ht n (by omega);refine Dz (e:=Extern.BytealgMakeNoZero.makeNoZero x_internal_bytealg_MakeNoZero.params #[bL]) j3 (by kernel_rfl) (by kernel_rfl) (by kernel_rfl) (by kernel_rfl) hr ?_;have hd:Sat σ w.drew.drew L:=h.drew.drew;have g:=hd.alc cs.toList dB;have U:YtendaipfdnhnaaaGreatDoor.alc w.drew.drew cs.toList.toArray dB=w.drew.drew.alloc (.cells cs dB):=by rw[lE4];rfl
 rw[U] at g;have y:=I (by unfold maxLen;omega);unfold maxLen at y;exact O _ _ cs.toList (by simpa using E) (by simpa using y) g
theorem Fg (w:World)(b c:Nat):(Builtin.copy_ #[bL,bL] ba #[hT (kE b) 0 c,hT none 0 0]).run P w= .ok (hY 0) w:=by
 have h:P.underlying bL=some (.slice dB):=rowU8.ht;have E:P.info? dB=some rowU8.i:=rowU8.hi;have g:(Builtin.lenOf (hT none 0 0)).run P w= .ok 0 w:=rfl;have I:rowU8.i.size=1:=rowU8.hs;have y:(Builtin.firstCells 1 0 (hT none 0 0)).run P w= .ok #[] w:=run_firstCells_none w 1 0 0 0
 simp[Builtin.copy_,run_underlying h,sizeOf,typeInfo,E,goInt,g,I,y,storeCells]
theorem BI {b n:Nat}{M:List ai}(U:Bld b false [] M)(h:Sat σ w (M++L))(a7:0<n)(E:n<=1099511627776)(O: ∀w y,Bld b true [] y->Sat σ w (y++L)->R (hQ (.tuple #[])) w):
 callE P eV #[kT (kE b),hY n] R w:=by
 obtain⟨p,q,c,b5,rfl,V,a6,b3,hc⟩:=U;have I:q=none:=by cases q<;>simp_all
 subst I;obtain⟨_,_,⟨_,_,rfl,rfl⟩|⟨_,_,h,_⟩⟩:=V
 rotate_left
 ·cases h
 refine cD.sound ?_;refine n8 h a6 λw h=>⟨rfl,af (by simp) ?_⟩
 refine h.tk λw h=>?_
 refine aa (aa ?_);refine⟨_,_,_,h.ldA,?_⟩;refine⟨_,_,_,h.ldA,?_⟩;refine⟨_,_,F5 _ _ _ _ _ _ rowU8.ht w,λ_ _=>rfl,?_⟩;refine ag (by simp (disch:=omega) only[i64_in];simp;omega) ?_;refine gu.sound ?_;refine h.tk λw h=>?_
 refine aa (aa ?_);refine⟨_,_,_,h.ldA,?_⟩;refine⟨_,_,_,h.ldA,?_⟩;refine⟨_,_,F5 _ _ _ _ _ _ rowU8.ht w,λ_ _=>rfl,?_⟩;have W:i64.wrap (i64.wrap (2*((0:Nat):Int))+(n:Int))=(n:Int):=by rw[i64_in (2*_) (by omega),i64_in _ (by omega)];omega
 rw[W];have h0:=h;refine vQ E h λw g cs b4 b6 h=>⟨_,_,_,rfl,h0.same h (.head _) (.tail _ (.head _)) 1,?_⟩
 refine⟨_,_,_,λw=>rE rowU8.ht rowU8.hi _ n cs.length 0 (by omega) w,?_⟩;refine aa ?_;refine⟨_,_,_,h.ldA,?_⟩;refine⟨_,_,Fg w g cs.length,?_⟩;refine aa ?_;refine h.stA 1 λw h=>?_
 have h:Sat σ w ((g,cel cs dB)::D0 b (kE b) (kE g) 0 cs.length::L):=h
 refine⟨rfl,O w [D0 b (kE b) (kE g) 0 cs.length,(g,cel cs dB)] ⟨_,_,_,_,rfl,⟨by simp[bc],by omega,.inr ⟨g,cs,rfl,by simp[bc],by simp[bc]⟩⟩,.inr rfl,rfl,λ_=>by omega⟩ ?_⟩;exact h.re
def sv (ts:List (List UInt8)):List Value:=ts.map λt=> hX (bs t)
@[simp] theorem j5 (ts:List (List UInt8)):(sv ts).length=ts.length:=by simp[sv]
theorem uF {ts:List (List UInt8)}{j:Nat}(h:j<ts.length):(sv ts)[j]? =some (hX (bs ts[j])):=by simp[sv,h]
def bl (sep:List UInt8):List (List UInt8)->List UInt8
 | []=> []
 |t::ts=>t++ts.flatMap (λu=>sep++u)
def Gv (ts:List (List UInt8)):Nat:=(ts.map List.length).sum
theorem xK (sep:List UInt8)(t:List UInt8)(ts:List (List UInt8)):(bl sep (t::ts)).length=t.length+Gv ts+ts.length*sep.length:=by
 simp only[bl,lA0,Gv]
 induction ts with
 |nil=>simp
 |cons u ts g=>simp only[lL3,lA0,lP1,List.sum_cons,lF0] at*;rw[lR3];omega
theorem Sl.rowAt {e:TypeId}{q:Option Addr}{n c:Nat}{vs:List Value}{M:List ai}(E:Sl 1 e q n c vs M)(I:0<n): ∃b sp,q=kE b/\M= [(b,cel (vs++sp) e)]:=by
 obtain⟨_,_,⟨_,h,_,_⟩|⟨b,sp,g,y,_⟩⟩:=E
 ·omega
 ·exact⟨b,sp,g,y⟩
theorem C9 {q:Option Addr}{n c:Nat}{t:List UInt8}{ts:List (List UInt8)}{a7:List ai}{sep:List UInt8}(b6:Sl 1 aq q n c (sv (t::ts)) a7)(h:Sat σ w (a7++L))(f0:1<=ts.length)(f1:n<1073741824)(e5:sep.length<65536)(h0:0<(bl sep (t::ts)).length)(hb:(bl sep (t::ts)).length<1073741824)(e4: ∀w,Sat σ w (a7++L)->R (hQ (hX (bs (bl sep (t::ts))))) w):callE P gm #[hT q n c,hX (bs sep)] R w:=by
 have e1:=b6.1;rw[j5,lF0] at e1;have I:=xK sep t ts;refine bW.sound ?_;obtain⟨y,sp,rfl,rfl⟩:=b6.rowAt (by omega);refine af (by simp;omega) (af (by simp;omega) ?_);have fin: ∀w,Sat σ w ([(y,cel (sv (t::ts)++sp) aq)]++L)->box w #[kT none,hT none 0 0] cq λa6 e0=>
  callE P eV #[kT (kE a6),hY (((bl sep (t::ts)).length:Nat):Int)] (λe c8=>e= hQ (.tuple #[])/\
  0<=(0:Int)/\0<(n:Int)/\
  aA (some ((hZ y 0):Addr)) λa9=>
  ∃(c2:ByteArray),c8.cell? (a9.add (Int.toNat 0*1))=some (hX c2)/\
  callE P bz #[kT (kE a6),hX c2] (λe d2=> ∃(c9:Int),∃(d0:Value),e= hQ (.tuple #[hY c9,d0])/\
  ∃(b8:Option Addr),∃(U:Nat),∃(b7:Nat),∃c3,(Instr.sliceAt al (hT (kE y) n c) (some (hY 1)) none none).run P d2= .ok (hT b8 U b7) c3/\
  bW.l2 R (bs sep) a6 b8 U b7 (U:Int) 0 c3) c8) e0:=by
  intro w h;refine Sat.bx h λb w h=>?_
  refine BI (DZ b) h h0 (by omega) λw M g h=>⟨rfl,by omega,by omega,aa ?_⟩
  refine⟨bs t,Sat.ld h (lB0 _ (.head _)) rfl,?_⟩;refine ub g h (.inr rfl) (by simp;omega) λw M g h=>⟨_,_,rfl,?_⟩
  refine⟨_,_,_,_,Ab rowStr.ht rowStr.hi _ n c 1 (by omega) w,?_⟩;have e8:=b6.2.1;rw[if_neg (by omega),rowStr.hs];simp only[lK3,lL0,lO0,lA1];rw[lT0] at g;intro Y c5;have V: ∀k j (l:List UInt8) M w,j+k=ts.length->Bld b true l M->Sat σ w (M++([(y,cel (sv (t::ts)++sp) aq)]++L))->l++(ts.drop j).flatMap (λu=>sep++u)=bl sep (t::ts)->
   Y (bs sep) b (some (hZ y 1)) (n - 1) (c - 1) ((n - 1:Nat):Int) (j:Int) w:=by
   intro k
   induction k with
   |zero=>
    intro j l M w O g h E;rw[lE2 (by omega)] at E;simp only[List.flatMap_nil,lG0] at E;refine c5 _ _ _ _ _ _ _ _ (af (by simp;omega) ?_);refine ua g h (by rw[E];omega) λw h=>⟨_,rfl,?_⟩
    rw[E];exact e4 w h
   |succ k b3=>
    intro j l M w O g h E;have I:j<ts.length:=by omega
    rw[lG1 I,lL3,<-lD0,<-lD0] at E;have d3:(l++sep++ts[j]).length<=(bl sep (t::ts)).length:=by rw[<-E];simp only[lA0];omega
    simp only[lA0] at d3;refine c5 _ _ _ _ _ _ _ _ (ag (by simp;omega) ⟨by omega,by omega,aa ?_⟩);simp only[lL0,lC0,lA1];have b4:(sv (t::ts)++sp)[1+j]? =some (hX (bs ts[j])):=by
     rw[lM0 (by simp;omega),show 1+j=j+1 by omega,uF (by simp;omega)];rfl
    refine⟨_,Sat.ld h (lB0 _ (.head _)) b4,?_⟩;refine ub g h (.inr rfl) (by omega) λw M g h=>⟨_,_,rfl,?_⟩
    refine ub g h (.inr rfl) (by simp;omega) λw M g h=>⟨_,_,rfl,?_⟩
    rw[aL (by omega)];exact b3 (j+1) _ M w (by omega) g h E
  exact V ts.length 0 t M w (by omega) g h rfl
 have c1: ∀w (a:Nat),a=ts.length*sep.length->Sat σ w ([(y,cel (sv (t::ts)++sp) aq)]++L)->bW.k2 R (kE y) n c (bs sep) (a:Int) w:=by
  intro w a e2 h X c4;have V: ∀k j (s:Nat),j+k=(t::ts).length->s+Gv ((t::ts).drop j)=(bl sep (t::ts)).length->X (kE y) n c (bs sep) (s:Int) (kE y) n c (n:Int) (j:Int) w:=by
   intro k
   induction k with
   |zero=>
    intro j s O hs;rw[lE2 (by omega)] at hs;simp only[Gv,List.map_nil,List.sum_nil,lL1] at hs;subst hs;refine c4 _ _ _ _ _ _ _ _ _ _ _ (af (by simp at O;simp;omega) ?_);exact fin w h
   |succ k b3=>
    intro j s O hs;have I:j<(t::ts).length:=by omega
    rw[lG1 I] at hs;simp only[Gv,lP1,List.sum_cons] at hs;have e7:j<n:=by simp at I;omega
    refine c4 _ _ _ _ _ _ _ _ _ _ _ (ag (by simp;omega) ⟨by omega,by omega,aa ?_⟩);simp only[lL0,lC0,lA1,lO0];have b4:(sv (t::ts)++sp)[j]? =some (hX (bs (t::ts)[j])):=by
     rw[lM0 (by simp at I⊢;omega),uF I]
    refine⟨_,Sat.ld h (.head _) b4,?_⟩;rw[aF];refine af (by simp (disch:=omega) only[i64_in];simp;omega) ?_
    show X _ _ _ _ _ _ _ _ _ _ w
    rw[aL (by omega),aF,i64_in _ (by omega),show (s:Int)+((t::ts)[j].length:Nat)=((s+(t::ts)[j].length:Nat):Int) by omega];exact b3 (j+1) _ (by omega) (by simp only[Gv];omega)
  refine V (t::ts).length 0 a (by omega) ?_;rw[I,e2];simp[Gv];omega
 have d1:ts.length*sep.length<1073741824:=by omega
 by_cases b9:sep= []
 ·subst b9;refine af (by simp) ?_;exact c1 w 0 (by simp) h
 ·refine ag (by simpa using lZ0.2 b9) ?_;have W:i64.wrap ((n:Int) - 1)=((ts.length:Nat):Int):=by simp (disch:=omega) only[i64_in];omega
  refine⟨by rw[W];omega,af ?_ ?_⟩
  ·rw[W];have e3:Int.tdiv 9223372036854775807 (ts.length:Int)=((9223372036854775807/ts.length:Nat):Int):=by
    rw[Int.tdiv_eq_ediv_of_nonneg (by omega)];simp
   rw[e3];have e9:65536<=9223372036854775807/ts.length:=by
    rw[Nat.le_div_iff_mul_le (by omega)];omega
   have e6:9223372036854775807/ts.length<=9223372036854775807:=Nat.div_le_self _ _;rw[i64_in _ (by omega),aF];exact decide_eq_false (by omega)
  ·show bW.k2 R _ n c (bs sep) _ w
   rw[W,aF];have:i64.wrap (0+i64.wrap ((sep.length:Int)*(ts.length:Int)))=((ts.length*sep.length:Nat):Int):=by
    have e:((sep.length:Int)*(ts.length:Int))=((ts.length*sep.length:Nat):Int):=by rw[lT6];simp
    generalize ts.length*sep.length=m at d1 e⊢;rw[e,i64_in (m:Int) (by omega),Int.zero_add,i64_in (m:Int) (by omega)]
   rw[this];exact c1 w _ rfl h

def Inl.plain? :Inl->Option (List UInt8)
 | .plain s=>some s
 | .openP s _=>some s
 | .emphP s _ _ _ _=>some s
 |_=>none
theorem jE {t:Inl}{v:Value}{M:List ai}{s:List UInt8}(y:InlAt t v M)(hs:t.plain? =some s)(g: ∀b cs e,M= [(b,cel (hX (bs s)::cs) e)]->R (hQ (kT (kE b))) w):callE P kR #[v] R w:=by
 refine qn.sound ?_;cases t<;>simp only[Inl.plain?,lI1,reduceCtorEq] at hs<;>subst hs
 ·obtain⟨b,cs,e,rfl,rfl⟩:=y;exact⟨_,_,_,wT w,ag rfl (g b _ _ rfl)⟩
 ·obtain⟨b,e,rfl,rfl⟩:=y;exact⟨_,_,_,pk (by decide) w,af rfl ⟨_,_,_,qK (by decide) w,af rfl ⟨_,_,_,pm w,ag rfl (aa (g b _ _ rfl))⟩⟩⟩
 ·obtain⟨b,e,rfl,rfl⟩:=y;exact⟨_,_,_,pk (by decide) w,af rfl ⟨_,_,_,sW w,ag rfl (aa (g b _ _ rfl))⟩⟩
theorem Inl.not_plain {t:Inl}(h:t.plain? =none):t.ty≠bJ/\t.ty≠aQ/\t.ty≠aT:=by
 cases t<;>simp only[Inl.plain?,reduceCtorEq] at h<;>(simp only[Inl.ty];decide)
theorem jF {t:Inl}{v:Value}{M:List ai}(I:InlAt t v M)(hs:t.plain? =none)(E:R (hQ (kT none)) w):callE P kR #[v] R w:=by
 refine qn.sound ?_;obtain⟨g,y,O⟩:=Inl.not_plain hs;obtain⟨b,cs,e,U,rfl,_⟩:=I.ptr;exact⟨_,_,_,pk g w,af rfl ⟨_,_,_,qK O w,af rfl ⟨_,_,_,qJ y w,af rfl E⟩⟩⟩
theorem Da: ∀us:List (List UInt8),bl [] us=us.flatten
 | []=>rfl
 |u::us=>by simp[bl,lM3,List.flatMap_id']
theorem InlsAt.mid {a:List Inl}{t:Inl}{b:List Inl}{vs:List Value}{M:List ai}(h:InlsAt (a++t::b) vs M): ∃g v E y I O,vs=g++v::E/\M=y++(I++O)/\InlsAt a g y/\InlAt t v I/\InlsAt b E O:=by
 obtain⟨g,E,y,I,rfl,rfl,V,W⟩:=h.split;obtain⟨v,U,b3,b4,rfl,rfl,a7,a6⟩:=W;exact⟨g,v,U,y,b3,b4,rfl,rfl,V,a7,a6⟩
theorem E9 (t:List UInt8):Instr.fill (λi=>some (i*1,1)) ((Array.range (1*1)).map (rowStr.z.cells[· %rowStr.z.cells.size]!)) [(0,hX (bs t))]=some #[hX (bs t)]:=by kernel_rfl
theorem pf {U s m c:Nat}{cs:List Value}{e:TypeId}{vs:List Value}{ts:List Inl}{us:List (List UInt8)}{EM:List ai}(e0:InlsAt ts vs EM)(d3:ts.map Inl.plain? =us.map some)(g4:vs.length=m)(d2:1<=m)(g2:m<1073741824)(f1: ∀j (b6:j<m),cs[s+j]? =vs[j]?)(e3:0<us.flatten.length)(hb:us.flatten.length<1073741824)(h:Sat σ w ((U,cel cs e)::(EM++L)))(e2: ∀w b c8,InlAt (.plain us.flatten) (iu bJ b) c8->Sat σ w ((U,cel cs e)::(c8++L))->R (hQ (kT (kE b))) w):
 callE P mG #[hT (some (hZ U s)) m c] R w:=by
 have f2:=e0.length;have b3:us.length=ts.length:=by have:=congrArg List.length d3;simpa using this.symm
 refine fX.sound ?_;have get: ∀j,j<m-> ∃t v a b y g E u,ts=a++t::b/\EM=y++(g++E)/\InlAt t v g/\t.plain? =some u/\us[j]? =some u/\cs[s+j]? =some v/\a.length=j:=by
  intro j b6;have c9:j<ts.length:=by omega
  have d0:ts=ts.take j++(ts[j]::ts.drop (j+1)):=by rw[<-lG1 c9,lW1]
  have O:j<us.length:=by omega
  have W:ts[j].plain? =some us[j]:=by
   have:=congrArg (λl=>l[j]?) d3
   simpa[c9,O] using this
  have c4:=e0;rw[d0] at c4;obtain⟨g0,v,g1,y,g,E,rfl,rfl,d2,a6,g3⟩:=c4.mid;have c5:=d2.length;rw[lY0,lJ6 (by omega)] at c5;refine⟨ts[j],v,ts.take j,ts.drop (j+1),y,g,E,us[j],d0,rfl,a6,W,lH0 O,?_,?_⟩
  ·rw[f1 j b6,lI0 (by omega),c5];simp
  ·rw[lY0];omega
 by_cases f3:m=1
 ·refine ag (by simp[f3]) ⟨by omega,by omega,aa ?_⟩;obtain⟨t,v,a,b,y,g,E,u,rfl,rfl,a6,W,a7,b7,b9⟩:=get 0 (by omega);have f0:b= []:=by
   simp only[lA0,lF0,b9] at f2;exact lF1 (by omega)
  have e5:a= []:=lF1 b9;subst f0 e5;obtain⟨e6,rfl⟩: ∃x,us= [x]:=by
   simp at b3
   match us,b3 with
   | [x],_=>exact⟨x,rfl⟩
  obtain rfl:e6=u:=by simpa using a7
  simp only[lL0,Int.toNat_zero,lS6,lL1];refine⟨v,Sat.ld h (.head _) b7,?_⟩;refine jE a6 W λc2 c3 e1 c1=>⟨_,rfl,?_⟩
  refine e2 w c2 g ?_ ?_
  ·rw[c1];exact⟨c2,c3,e1,rfl,by simp⟩
  ·exact h.less (y++E)
 ·refine af (by simp;omega) ?_;intro X d1;have e7: ∀k j (q:Option Addr) (n b5:Nat) V w,j+k=m->Sl 1 aq q n b5 (sv (us.take j)) V->Sat σ w (V++((U,cel cs e)::(EM++L)))->X q n b5 (some (hZ U s)) m c (m:Int) (j:Int) w:=by
   intro k
   induction k with
   |zero=>
    intro j q n b5 V w b6 I h;refine d1 _ _ _ _ _ _ _ _ _ (af (by simp;omega) ?_);rw[lB2 (by omega)] at I;cases us with
    |nil=>simp at b3;omega
    |cons u us=>
     have b4:=I.1;rw[j5] at b4;simp at b3 b4;have b8:=Da (u::us)
     refine C9 (sep:= []) I h (by omega) (by omega) (by simp) (by rw[b8];exact e3) (by rw[b8];exact hb) λw h=>⟨_,rfl,?_⟩
     rw[b8];refine Sat.bx h λpb w h=>?_
     refine e2 w pb [(pb,cel [hX (bs (u::us).flatten)] ov)] ⟨pb,[],_,rfl,rfl⟩ ?_;exact h.less (V++EM)
   |succ k f4=>
    intro j q n b5 V w b6 I h;have e9:j<m:=by omega
    have O:j<us.length:=by omega
    refine d1 _ _ _ _ _ _ _ _ _ (ag (by simp;omega) ⟨by omega,by omega,aa ?_⟩);obtain⟨t,v,a,b,y,g,E,u,rfl,rfl,a6,W,a7,b7,b9⟩:=get j e9;simp only[lL0,lC0,lA1];refine⟨v,Sat.ld h (lB0 _ (.head _)) b7,?_⟩;refine jE a6 W λc2 c3 e1 c1=>⟨_,rfl,aa ?_⟩
    subst c1;refine⟨_,Sat.ld h (lB0 _ (.tail _ (lC1 _ (lB0 _ (.head _))))) rfl,?_⟩;have b4:=I.1;rw[j5,lY0] at b4;refine Sat.app1 rowStr I h (v:= hX (bs u)) rfl (by simp[Value.cells,Value.oneCell']) (E9 u) (by omega) (by omega) (by decide) λf7 e4 f6 f5 e8 h=>?_
    rw[aL (by omega)];refine f4 (j+1) f7 (n+1) e4 f5 f6 (by omega) ?_ h;have e:sv (us.take (j+1))=sv (us.take j)++ [hX (bs u)]:=by
     rw[lB1 O];have:us[j]=u:=by rw[lH0 O] at a7;exact Option.some.inj a7
     simp[sv,this]
    rw[e];exact e8
  exact e7 m 0 none 0 0 [] w (by omega) (Sl.nil 1 aq) h

def rS (p:List (List UInt8)):List Inl:=if p= [] then [] else [.plain p.flatten]
def eE:List (List UInt8)->List Inl->List Inl
 |p,[]=>rS p
 |p,t::ts=>match t.plain? with
  |some s=>eE (p++ [s]) ts
  |none=>rS p++t::eE [] ts
def lD (ts:List Inl):List Inl:=eE [] ts
def sk:List Inl->Nat
 | []=>0
 |t::ts=>(match t.plain? with|some s=>s.length|none=>0)+sk ts
theorem vE {g:Type}{A B C:List g}{v:g}(y:B≠ []):(A++(B++C)).set A.length v=(A++ [v])++(B.drop 1++C):=by
 cases B with
 |nil=>exact absurd rfl y
 |cons x B=>simp[lR1]
theorem fillP (v:Value)(hv: ∃t b,v=iu t b):Instr.fill (λi=>some (i*1,1)) ((Array.range (1*1)).map (rowInl.z.cells[· %rowInl.z.cells.size]!)) [(0,v)]=some v.cells:=by
 obtain⟨t,b,rfl⟩:=hv;exact Bs t _
theorem FG:P.underlying bJ=some (.pointer ov):=eX
theorem vP {h9 q:Option Addr}{n c:Nat}{vs:List Value}{ts:List Inl}{RM EM:List ai}(f5:Sl 1 aD q n c vs RM)(g4:InlsAt ts vs EM)(h1: ∀t∈ts,∀s,t.plain? =some s->s≠ [])(hb:sk ts<1073741824)(i4:n<1073741823)(h:Sat σ w (RM++(EM++L)))(f4: ∀w f2 g3 f7 a7,Sl 1 aD q f2 c g3 f7->f2<=n->InlsAt (lD ts) g3 a7->Sat σ w (f7++(a7++L))->R (hQ (hT q f2 c)) w):callE P fO #[kT h9,hT q n c] R w:=by
 have i8:=f5.1;have i2:=f5.2.1;have i1:=g4.length;refine bI.sound ?_;refine⟨_,_,_,_,rE rowInl.ht rowInl.hi q n c 0 (by omega) w,?_⟩;intro X f0;obtain⟨_,_,⟨rfl,rfl,rfl,rfl⟩|⟨E,sp,rfl,rfl,g1⟩⟩:=f5
 ·have h2:ts= []:=lF1 (by omega);subst h2;refine f0 _ _ _ _ _ _ _ _ _ (af rfl ?_);refine af rfl (ag rfl ?_);exact f4 w 0 [] [] [] (Sl.nil 1 aD) (by omega) ⟨rfl,rfl⟩ (h.sub (by rw[lT0];exact lJ3 _ _))
 have g7:vs.length=n:=by omega
 have h3: ∀(b3:List Inl) (V:List Inl) (us:List (List UInt8)) (b6:List Inl) (g junk y c8:List Value) (O b7 RM:List ai) w,
  InlsAt b6 g O->InlsAt V y b7->InlsAt b3 c8 RM->V.map Inl.plain? =us.map some->(∀u∈us,u≠ [])->(∀t∈b3,∀s,t.plain? =some s->s≠ [])->us.flatten.length+sk b3<1073741824->
  g.length+junk.length+y.length+c8.length=n->lD ts=b6++eE us b3->
  Sat σ w ((E,cel (g++(junk++(y++(c8++sp)))) aD)::(O++(b7++(RM++L))))->
  X (kE E) n c (kE E) g.length c ((g.length+junk.length:Nat):Int) ((g.length+junk.length+y.length:Nat):Int) w:=by
  intro b3
  induction b3 with
  |nil=>
   intro V us b6 g junk y c8 O b7 RM w b8 b4 e8 c1 e0 d2 c5 c4 c2 h;obtain⟨rfl,rfl⟩:=e8;have e9:=b4.length;have c9:us.length=V.length:=by have:=congrArg List.length c1;simpa using this.symm
   simp only[lM1,lL1] at c4;refine f0 _ _ _ _ _ _ _ _ _ (af (by simp;omega) ?_)
   by_cases b5:y= []
   ·subst b5;have e4:V= []:=by cases V with
     |nil=>rfl
     |cons _ _=>simp at e9
    subst e4;have e5:us= []:=by cases us with
     |nil=>rfl
     |cons _ _=>simp at c9
    subst e5;obtain⟨_,rfl⟩:=b4;refine af (by simp) (ag (by simp at c4⊢;omega) ?_);refine f4 w g.length g [(E,cel (g++(junk++sp)) aD)] O ⟨by omega,by omega,.inr ⟨E,junk++sp,rfl,rfl,?_⟩⟩ (by omega) ?_ ?_
    ·simp only[lA0] at g1⊢;simp at c4;omega
    ·rw[c2];simpa[eE,rS] using b8
    ·simp only[lT0] at h;exact h.re
   ·have g6:0<y.length:=lZ0.2 b5;refine ag (by simp;omega) ?_;refine⟨_,_,_,_,Cw rowInl.ht rowInl.hi _ n c _ _ (by omega) (by omega) w,?_⟩;rw[if_neg (by omega),rowInl.hs];simp only[lK3,lL0,lO0,lA1];have c3:us≠ []:=by intro h0;subst h0;simp at c9;omega
    have e7:0<us.flatten.length:=by
     cases us with
     |nil=>exact absurd rfl c3
     |cons u us=>
      have:=lZ0.2 (e0 u (.head _));simp only[lM3,lA0];omega
    have h:Sat σ w ((E,cel (g++(junk++(y++([]++sp)))) aD)::(b7++(O++L))):=h.re
    refine pf (us:=us) b4 c1 (by omega) (by omega) (by omega) ?_ e7 (by simp only[sk] at c5;omega) h λw nb a7 f1 h=>⟨_,rfl,?_⟩
    ·intro j h6;rw[lI0 (by omega),lI0 (by omega),lM0 (by omega)];congr 1;omega
    have h:Sat σ w ((E,cel (g++((junk++y)++sp)) aD)::(a7++(O++L))):=by
     have e:g++(junk++(y++([]++sp)))=g++((junk++y)++sp):=by simp
     rw[<-e];exact h
    refine wt rowInl h (v:=iu bJ nb) (by simp;omega) (by omega) rfl rfl (Bs _ _) λw h=>?_
    rw[vE (by simp[b5])] at h;refine ag (by simp;omega) ?_;refine f4 w (g.length+1) (g++ [iu bJ nb]) [(E,cel ((g++ [iu bJ nb])++((junk++y).drop 1++sp)) aD)] (O++a7) ⟨by simp,by omega,.inr ⟨E,_,rfl,rfl,?_⟩⟩ (by omega) ?_ ?_
    ·simp only[lA0,lJ1,lE0] at g1⊢;omega
    ·rw[c2];simp only[eE,rS,if_neg c3];exact b8.append (InlsAt.one f1)
    ·exact h.re
  |cons t b3 g5=>
   intro V us b6 g junk y c8 O b7 RM w b8 b4 e8 c1 e0 d2 c5 c4 c2 h;have e9:=b4.length;have c9:us.length=V.length:=by have:=congrArg List.length c1;simpa using this.symm
   obtain⟨v,I,d0,d1,rfl,rfl,hv,f6⟩:=e8;simp only[lF0] at c4;refine f0 _ _ _ _ _ _ _ _ _ (ag (by simp;omega) ⟨by omega,by omega,aa ?_⟩);simp only[lL0,lC0,lA1,lO0];have f3:(g++(junk++(y++(v::I++sp))))[g.length+junk.length+y.length]? =some v:=by
    rw[lI0 (by omega),lI0 (by omega),lI0 (by omega)];rw[show g.length+junk.length+y.length - g.length - junk.length - y.length=0 by omega];rfl
   refine⟨v,Sat.ld h (.head _) f3,?_⟩;cases a6:t.plain? with
   |some u=>
    refine jE hv a6 λk0 i0 j1 j0=>⟨_,rfl,?_⟩
    refine⟨_,_,dU FG _ w,ag rfl ?_⟩;rw[aL (by omega)];have:=g5 (V++ [t]) (us++ [u]) b6 g junk (y++ [v]) I O (b7++d0) d1 w b8 (b4.append (InlsAt.one hv)) f6 (by simp[c1,a6])
     (by
      intro x b9;rcases lP0.1 b9 with b9|b9
      ·exact e0 x b9
      ·simp at b9;subst b9;exact d2 t (.head _) _ a6)
     (λt' e6=>d2 t' (.tail _ e6)) (by simp only[sk,a6] at c5;simp only[List.flatten_append,lM3,List.flatten_nil,lA0,lG0];omega) (by simp;omega) (by rw[c2,eE,a6]) ?_
    ·simp only[lA0,lE0,<-lD3] at this;exact this
    ·have e:g++(junk++(y++ [v]++(I++sp)))=g++(junk++(y++(v::I++sp))):=by simp
     rw[e];exact h.re
   |none=>
    refine jF hv a6 ⟨_,rfl,?_⟩;refine⟨_,_,dU FG _ w,af rfl ?_⟩;have g0: ∃t b,v=iu t b:=by obtain⟨b,_,_,_,h,_⟩:=hv.ptr;exact⟨_,b,h⟩
    have g2:v.cells= #[v]/\v.oneCell'=true:=by obtain⟨t,b,rfl⟩:=g0;exact⟨rfl,rfl⟩
    have fin: ∀(d3:List Inl) (U W:List Value) (e3:List ai) w,InlsAt d3 U e3->lD ts=d3++t::eE [] b3->U.length+W.length=g.length+junk.length+y.length->
     Sat σ w ((E,cel (U++(W++(v::I++sp))) aD)::(e3++(d0++(d1++L))))->
     bI.k2 R X (kE E) n c (kE E) U.length c ((g.length+junk.length+y.length:Nat):Int) w:=by
     intro d3 U W e3 w h4 h5 i3 h;refine af (by simp;omega) ⟨by omega,by omega,aa ?_⟩;simp only[lL0,lC0,lA1,lO0];have f3:(U++(W++(v::I++sp)))[g.length+junk.length+y.length]? =some v:=by
      rw[lI0 (by omega),lI0 (by omega)];rw[show g.length+junk.length+y.length - U.length - W.length=0 by omega];rfl
     refine⟨v,Sat.ld h (.head _) f3,?_⟩;have e:U++(W++(v::I++sp))=U++((W++ [v])++(I++sp)):=by simp
     rw[e] at h;refine wt rowInl h (v:=v) (by simp;omega) (by omega) g2.1 g2.2 (fillP v g0) λw h=>?_
     rw[vE (by simp)] at h;have h7:i64.wrap (((g.length+junk.length+y.length:Nat):Int)+1)=((g.length+junk.length+y.length+1:Nat):Int):=aL (by omega)
     rw[h7];have:=g5 [] [] (d3++ [t]) (U++ [v]) ((W++ [v]).drop 1) [] I (e3++d0) [] d1 w (h4.append (InlsAt.one hv)) ⟨rfl,rfl⟩ f6 rfl (by simp) (λt' e6=>d2 t' (.tail _ e6)) (by simp only[sk,a6] at c5;simp;omega)
      (by simp;omega) (by rw[h5];simp) ?_
     ·simp only[lA0,lE0,lJ1,lM1,lL1] at this;have h8:U.length+1+(W.length+1 - 1)=g.length+junk.length+y.length+1:=by omega
      rw[h8] at this;exact this
     ·rw[lT0];exact h.re
    by_cases b5:y= []
    ·subst b5;have e4:V= []:=by cases V with
      |nil=>rfl
      |cons _ _=>simp at e9
     subst e4;have e5:us= []:=by cases us with
      |nil=>rfl
      |cons _ _=>simp at c9
     subst e5;obtain⟨_,rfl⟩:=b4;refine af (by simp) ?_;refine fin b6 g junk O w b8 (by rw[c2,eE,a6];rfl) (by simp) ?_;simp only[lT0] at h;exact h.re
    ·have g6:0<y.length:=lZ0.2 b5;refine ag (by simp;omega) ?_;refine⟨_,_,_,_,Cw rowInl.ht rowInl.hi _ n c _ _ (by omega) (by omega) w,?_⟩;rw[if_neg (by omega),rowInl.hs];simp only[lK3,lL0,lO0,lA1];have c3:us≠ []:=by intro h0;subst h0;simp at c9;omega
     have e7:0<us.flatten.length:=by
      cases us with
      |nil=>exact absurd rfl c3
      |cons u us=>
       have:=lZ0.2 (e0 u (.head _));simp only[lM3,lA0];omega
     have h:Sat σ w ((E,cel (g++(junk++(y++(v::I++sp)))) aD)::(b7++(O++(d0++(d1++L))))):=h.re
     refine pf (us:=us) b4 c1 (by omega) (by omega) (by omega) ?_ e7 (by simp only[sk] at c5;omega) h λw nb a7 f1 h=>⟨_,rfl,?_⟩
     ·intro j h6;rw[lI0 (by omega),lI0 (by omega),lM0 (by omega)];congr 1;omega
     have h:Sat σ w ((E,cel (g++((junk++y)++(v::I++sp))) aD)::(a7++(O++(d0++(d1++L))))):=by
      have e:g++(junk++(y++(v::I++sp)))=g++((junk++y)++(v::I++sp)):=by simp
      rw[<-e];exact h
     refine wt rowInl h (v:=iu bJ nb) (by simp;omega) (by omega) rfl rfl (Bs _ _) λw h=>?_
     rw[vE (by simp[b5])] at h;have:=fin (b6++ [.plain us.flatten]) (g++ [iu bJ nb]) ((junk++y).drop 1) (O++a7) w (b8.append (InlsAt.one f1)) (by rw[c2,eE,a6];simp[rS,c3]) (by simp;omega) (h.re);simp only[lA0,lE0] at this;exact this
 have:=h3 ts [] [] [] [] [] [] vs [] [] EM w ⟨rfl,rfl⟩ ⟨rfl,rfl⟩ g4 rfl (by simp) h1 (by simpa using hb) (by simpa using g7) rfl (by simp only[lT0];exact h.re);exact this

inductive PK where
 |nil
 |fn (f:FuncId)
 |code
def kt (o:Opt)(c:UInt8):PK:=
 if c=92 then .fn jw else if c=96 then .code else if c=60 then .fn ka else if c=91 then .fn gO else if c=33 then .fn mX
 else if c=95\/c=42 then .fn dV else if c=46 then (if o.dot then .fn uY else .nil) else if c=45 then (if o.dash then .fn tK else .nil)
 else if c=34\/c=39 then (if o.quote then .fn dV else .nil) else if c=126 then (if o.strike then .fn dV else .nil) else if c=10 then .fn j9
 else if c=38 then .fn mf else if c=58 then (if o.emoji then .fn rQ else .nil) else .nil
abbrev XI:=Option Addr->ByteArray->Option Addr->Nat->Nat->Int->Bool->Int->World->Prop
theorem lE {X:XI}{b pb:Nat}{p:PS}{o:Opt}{s:List UInt8}{U:Option Addr}{V W:Nat}{lo:Int}{O:Bool}{i:Nat}(hi:i<s.length)(hs:s.length<4611686018427387904)(e2:p.pz=kE pb)(e6:p.at b∈L)(e4:o.at pb∈L)(h:Sat σ w L)(g:match kt o s[i] with
  | .nil=>av.k1 R X (kE b) (bs s) U V W lo O i .nilFunc w
  | .fn f=>av.k1 R X (kE b) (bs s) U V W lo O i (.func (.func f) #[] #[]) w
  | .code=>br (!O) (callE P dT #[kT (some (hZ b 12))] (λe e0=>e= hQ (.tuple #[])/\av.k1 R X (kE b) (bs s) U V W lo true i (.func (.func bK) #[kT (some (hZ b 12))] #[]) e0) w)
   (av.k1 R X (kE b) (bs s) U V W lo O i (.func (.func bK) #[kT (some (hZ b 12))] #[]) w)):
 av.bl1 R X (kE b) (bs s) U V W lo O i w:=by
 have d2:w.cell? (hZ b 0)=some (kT (kE pb)):=by rw[<-e2];exact Sat.ld h e6 rfl
 refine ag (by simp;omega) ⟨by omega,by simp;omega,?_⟩;unfold kt at g;have E: ∀(d:UInt8) (m:Int),(d.toNat:Int)=m-> ¬ s[i]=d->(bt (bs s) (i:Int)==m)=false:=by
  intro d m c9 hd;rw[dh hi d m c9];simpa using hd
 have y: ∀(d:UInt8) (m:Int),(d.toNat:Int)=m->s[i]=d->(bt (bs s) (i:Int)==m)=true:=by
  intro d m c9 hd;rw[dh hi d m c9];simpa using hd
 by_cases a7:s[i]=92
 ·rw[if_pos a7] at g;exact ag (y 92 92 rfl a7) g
 rw[if_neg a7] at g;refine af (E 92 92 rfl a7) ?_
 by_cases c3:s[i]=96
 ·rw[if_pos c3] at g;refine ag (y 96 96 rfl c3) ?_;cases O with
  |true=>exact af rfl (aa g)
  |false=>exact ag rfl (aa (by
   have g:callE P dT #[kT (some (hZ b 12))] _ w:=g
   exact g))
 rw[if_neg c3] at g;refine af (E 96 96 rfl c3) ?_
 by_cases b8:s[i]=60
 ·rw[if_pos b8] at g;exact ag (y 60 60 rfl b8) g
 rw[if_neg b8] at g;refine af (E 60 60 rfl b8) ?_
 by_cases b4:s[i]=91
 ·rw[if_pos b4] at g;exact ag (y 91 91 rfl b4) g
 rw[if_neg b4] at g;refine af (E 91 91 rfl b4) ?_
 by_cases b5:s[i]=33
 ·rw[if_pos b5] at g;exact ag (y 33 33 rfl b5) g
 rw[if_neg b5] at g;refine af (E 33 33 rfl b5) ?_
 by_cases b6:s[i]=95
 ·rw[if_pos (.inl b6)] at g;exact ag (y 95 95 rfl b6) (ag rfl g)
 refine af (E 95 95 rfl b6) ?_
 by_cases b9:s[i]=42
 ·rw[if_pos (.inr b9)] at g;exact ag (y 42 42 rfl b9) g
 rw[if_neg (by simp[b6,b9])] at g;refine af (E 42 42 rfl b9) ?_
 have I: ∀ {A B:Prop} (k:Nat) (v:Bool),o.cells[k]? =some (hV v)->(v=true->A)->(v=false->B)->
  aA (some ((hZ b 0):Addr)) λe1=> ∃(d1:Option Addr),w.cell? e1=some (kT d1)/\aA d1 λd3=> ∃(d0:Bool),w.cell? (d3.add k)=some (hV d0)/\br d0 A B:=by
  intro A B k v hv e3 e5;refine aa ⟨_,d2,aa ?_⟩;simp only[lL0,lO0];exact⟨v,Sat.ld h e4 hv,bh e3 e5⟩
 by_cases c2:s[i]=46
 ·rw[if_pos c2] at g;refine ag (y 46 46 rfl c2) (I 7 o.dot rfl (λhv=>?_) (λhv=>?_))
  ·rw[if_pos hv] at g;exact g
  ·rw[if_neg (by simp[hv])] at g;exact g
 rw[if_neg c2] at g;refine af (E 46 46 rfl c2) ?_
 by_cases c1:s[i]=45
 ·rw[if_pos c1] at g;refine ag (y 45 45 rfl c1) (I 8 o.dash rfl (λhv=>?_) (λhv=>?_))
  ·rw[if_pos hv] at g;exact g
  ·rw[if_neg (by simp[hv])] at g;exact g
 rw[if_neg c1] at g;refine af (E 45 45 rfl c1) ?_
 by_cases b7:s[i]=34
 ·rw[if_pos (.inl b7)] at g;refine ag (y 34 34 rfl b7) (ag rfl (I 9 o.quote rfl (λhv=>?_) (λhv=>?_)))
  ·rw[if_pos hv] at g;exact g
  ·rw[if_neg (by simp[hv])] at g;exact g
 refine af (E 34 34 rfl b7) ?_
 by_cases b3:s[i]=39
 ·rw[if_pos (.inr b3)] at g;refine ag (y 39 39 rfl b3) (I 9 o.quote rfl (λhv=>?_) (λhv=>?_))
  ·rw[if_pos hv] at g;exact g
  ·rw[if_neg (by simp[hv])] at g;exact g
 rw[if_neg (by simp[b7,b3])] at g;refine af (E 39 39 rfl b3) ?_
 by_cases a6:s[i]=126
 ·rw[if_pos a6] at g;refine ag (y 126 126 rfl a6) (I 1 o.strike rfl (λhv=>?_) (λhv=>?_))
  ·rw[if_pos hv] at g;exact g
  ·rw[if_neg (by simp[hv])] at g;exact g
 rw[if_neg a6] at g;refine af (E 126 126 rfl a6) ?_
 by_cases c4:s[i]=10
 ·rw[if_pos c4] at g;exact ag (y 10 10 rfl c4) g
 rw[if_neg c4] at g;refine af (E 10 10 rfl c4) ?_
 by_cases c5:s[i]=38
 ·rw[if_pos c5] at g;exact ag (y 38 38 rfl c5) g
 rw[if_neg c5] at g;refine af (E 38 38 rfl c5) ?_
 by_cases c8:s[i]=58
 ·rw[if_pos c8] at g;refine ag (y 58 58 rfl c8) (I 6 o.emoji rfl (λhv=>?_) (λhv=>?_))
  ·rw[if_pos hv] at g;exact g
  ·rw[if_neg (by simp[hv])] at g;exact g
 rw[if_neg c8] at g;exact af (E 58 58 rfl c8) g
end Go.Proofs.YtendaipfdnhnaaaGreatDoor
