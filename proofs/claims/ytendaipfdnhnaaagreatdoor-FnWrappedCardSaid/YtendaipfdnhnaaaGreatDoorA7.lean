/- Part 7 of the proof of the law FnWrapped: for every input the law returns true, the inputs read as they did, and memory that was there is as it was; under the conditions of the given row alone. -/
import Derived.SliceStrings
import Derived.WideKeyArgs
import Derived.Below
import Derived.Deep.Slices
import Derived.ChangeArms
import Derived.OpenShut
import Derived.ChangeMaps5
import Derived.MakeChecks
import Derived.LaidSub
import Derived.FnData
import Derived.Test.YtendaipfdnhnaaaGreatDoorA6
set_option linter.all false
open Go.IntKind(i64)
open ByteArray renaming mk→hP
open List renaming replicate→hN
namespace Go.Proofs.YtendaipfdnhnaaaGreatDoor
open Go.Proofs Go.IntWalk Go.RowKit
set_option maxRecDepth 20000
variable {σ:Out} {w:World} {L L':List ai} {R:Ending->World->Prop} {G:List UInt8->List Inl} {op:Opt}

theorem pZ (ls:List LT):(aw [.para ls]).tail=ls.map cv:=by
 show ls.map cv++aw []=_
 rw[aw,lG0]
theorem zZ (ls:List LT)(bn:BN):(aw [.para ls,bn]).tail=ls.map cv++ [[]]++bg bn:=by
 show ls.map cv++([]::(bg bn++aw []))=_
 rw[aw];simp
theorem GK (d:Nat)(ls:List LT)(y:lsA ls):abS [.para ls]/\smS (d - 1) [.para ls]/\ ∀g,flS g [.para ls]:=⟨⟨y,(λc hc=>by cases hc),trivial⟩,⟨by simp only[smB],trivial⟩,λg=>⟨trivial,trivial⟩⟩
theorem GJ (ls:List LT)(E:OA)(g y:Nat)(us:List Value)(RM KM:List ai)(V:lsA ls)(O:NDs (inT (ft ls)) us KM)(I:Sl 10 ae E g y us RM)(U:g<=30):NodeDt (mV 1 (.para ls)) (({kind:=6,s:=1,e:=ls.length}:NH).nd none 0 E g y) (RM++KM):=by
 have e:mV 1 (.para ls)= .mk {kind:=6,s:=1,e:=ls.length} (inT (ft ls)):=by
  rw[mV];have:1+ls.length - 1=ls.length:=by omega
  rw[this]
 rw[e];exact⟨_,_,none,0,E,g,y,us,RM,KM,rfl,rfl,rfl,by omega,O,I⟩
theorem GW {d:Nat}{odd loose:Bool}{b b1 g3 y:Nat}{q:OA}{n c:Nat}{vs:List UInt8}{s s':BS}{Y:List ai}{X:OA->Int->Bool->Nat->Nat->Bool->OA->Nat->Nat->Int->Int->WP}{g2:OA}{g4 g1:Nat}{f4 f5 f3:Int}(hd:d<=3)(s3:1<=d)(n0:yH (d - 1))(i3:Rd σ Y q n vs)(h4:s.dp d)(i1:s.kp s')(h6:s.flat=true)(j0:s.fq=true->False)(h:Sat σ w (bC b q n c s'::(ndC y (kw none 0 0)::Y)))(k5: ∀(it:List BN) (a6:BS) (i2:OA) (h9:Nat) (h7:List Value) (g7 h2:List ai) (h3:OA) (g6:Nat) (g5 q0:List ai) (w:World),abS it->it≠ []->it.length<=2->smS (d - 1) it->(s.flat=true->(∃ls t,it= .para ls::t)/\flS s.fq it/\(s.fq=true->it.length=1))->s.kp a6->SlS h3 g6 (aw it).tail g5->NDs (kQ 1 it) h7 h2->Sl 10 ae i2 it.length h9 h7 g7->
  Sat σ w (bC b q n c a6::ndC y (kw i2 it.length h9)::(g5++(g7++(h2++(q0++Y)))))->aC.k5 R X (kE b) (d:Nat) odd b1 g3 loose g2 g4 g1 f4 y h3 (aw it).tail.length g6 f5 f3 w):
 aC.k4 R X (kE b) (d:Nat) odd b1 g3 loose g2 g4 g1 f4 y f5 f3 true w:=by
 have r5:i64.wrap (((d:Nat):Int) - 1)=((d - 1:Nat):Int):=by rw[gR (by omega) (by omega)]
 have p4:s'.flat=true:=by rw[i1.1];exact h6
 have o4:Rd σ (ndC y (kw none 0 0)::Y) q n vs:=i3.up λw h=>h.less [ndC y (kw none 0 0)]
 refine ag rfl (aa ⟨_,Sat.ld h (.head _) (i:=3) rfl,?_⟩);refine ag p4 ?_;refine qu o4 h λw ls a6 r8 r6 O e7 e6 d3 o0 E PK f2 q3 h5 m4 m5 n1 h=>⟨_,_,_,_,_,_,_,_,_,_,_,_,_,_,_,_,_,rfl,?_⟩
 obtain⟨k0,n2,l5⟩:=GK d ls f2;have s7:=f2.2.1;refine Sat.bx h λI w h=>?_
 have h:Sat σ w (ndC I {}::(O++(E++(PK++(bC b q n c a6::(ndC y (kw none 0 0)::Y)))))):=h
 refine h.st10 0 {} (({kind:=6}:NH).nd none 0 e7 e6 d3) λw h=>?_
 have h:Sat σ w (ndC I (({kind:=6}:NH).nd none 0 e7 e6 d3)::(O++(E++(PK++(bC b q n c a6::(ndC y (kw none 0 0)::Y)))))):=h
 refine Sat.st h (k:=0) rfl (by show 8<10;decide) trivial rfl λw h=>?_
 refine Sat.st h (k:=0) rfl (by show 9<10;decide) trivial rfl λw h=>h.tk λw h=>?_
 rw[lQ0] at h;have h:Sat σ w (ndC I (({kind:=6,s:=1,e:=ls.length}:NH).nd none 0 e7 e6 d3)::(O++(E++(PK++(bC b q n c a6::(ndC y (kw none 0 0)::Y)))))):=h
 have f1:=GJ ls e7 e6 d3 o0 E PK f2 m4 m5 n1;revert h f1;generalize ({kind:=6,s:=1,e:=ls.length}:NH).nd none 0 e7 e6 d3=u;intro h f1;refine h.ldB10 u (.head _) ?_;refine Sat.buildN h u λg w h=>?_
 have h:Sat σ w (ndC g u::ndC I u::(O++(E++(PK++(bC b q n c a6::(ndC y (kw none 0 0)::Y)))))):=h
 have h:Sat σ w (ndC y (kw none 0 0)::ndC g u::ndC I u::(O++(E++(PK++(bC b q n c a6::Y))))):=h.re
 refine Sat.st h (k:=0) rfl (by show 7<10;decide) trivial rfl λw h=>?_
 have h:Sat σ w (ndC y (kw (kE g) 1 1)::ndC g u::ndC I u::(O++(E++(PK++(bC b q n c a6::Y))))):=h
 have h:Sat σ w (bC b q n c a6::(ndC y (kw (kE g) 1 1)::ndC g u::ndC I u::(O++(E++(PK++Y))))):=h.re
 have h1:Rd σ (ndC y (kw (kE g) 1 1)::ndC g u::ndC I u::(O++(E++(PK++Y)))) q n vs:=i3.up λw h=>h.less (ndC y (kw (kE g) 1 1)::ndC g u::ndC I u::(O++(E++PK)))
 refine fg (k:=2) h1 (by omega) (by omega) h λw r i4 hr p1 h=>⟨_,rfl,?_⟩
 have b4:=i1.trans (q3.kp.trans p1.kp);refine bh (λ_=>?_) λ_=>?_
 ·rw[r5];refine n0 odd h1 ⟨(b4.dp h4).1,by have:=(b4.dp h4).2;omega⟩ h λw bn W t0 t2 f0 d2 q4 c3 c8 b6 m6 V U e3 r4 n3 r1 o2 m3 s6 h=>⟨_,_,_,_,_,_,_,_,_,_,_,_,_,_,_,_,_,rfl,?_⟩
  have m1:=b4.trans r4;obtain⟨s8,s9,o3⟩:=uP (by omega) e3.ab e3.sm;refine Sat.bx h λc9 w h=>?_
  have h:Sat σ w (ndC c9 {}::(f0++(V++(U++(bC b q n c W::(ndC y (kw (kE g) 1 1)::ndC g u::ndC I u::(O++(E++(PK++Y))))))))):=h
  refine h.st10 0 {} (d2.nd none 0 c3 c8 b6) λw h=>?_
  have h:Sat σ w (ndC c9 (d2.nd none 0 c3 c8 b6)::(f0++(V++(U++(bC b q n c W::(ndC y (kw (kE g) 1 1)::ndC g u::ndC I u::(O++(E++(PK++Y))))))))):=h
  have r9:i64.wrap ((((ls.map cv).length:Nat):Int)+2)=((ls.length+2:Nat):Int):=by
   rw[lQ0,i64_in _ (by omega)];omega
  have p5:i64.wrap (i64.wrap ((((ls.map cv).length:Nat):Int)+1)+(((bg bn).length:Nat):Int))=((ls.length+2+(bg bn).length - 1:Nat):Int):=by
   rw[lQ0,aL (by omega),i64_in _ (by omega)];omega
  rw[r9,p5];refine Sat.st h (k:=0) rfl (by show 8<10;decide) trivial rfl λw h=>?_
  refine Sat.st h (k:=0) rfl (by show 9<10;decide) trivial rfl λw h=>h.tk λw h=>?_
  have h:Sat σ w (ndC c9 (({d2 with s:=ls.length+2,e:=ls.length+2+(bg bn).length - 1}:NH).nd none 0 c3 c8 b6)::(f0++(V++(U++(bC b q n c W::(ndC y (kw (kE g) 1 1)::ndC g u::ndC I u::(O++(E++(PK++Y))))))))):=h
  have f7:NodeDt (mV (1+(ls.map cv).length+1) bn) (({d2 with s:=ls.length+2,e:=ls.length+2+(bg bn).length - 1}:NH).nd none 0 c3 c8 b6) (V++U):=by
   have e:1+(ls.map cv).length+1=ls.length+2:=by rw[lQ0];omega
   rw[e,r1.2.2 _ (by omega)];exact⟨_,q4,none,0,c3,c8,b6,m6,V,U,rfl,rfl,rfl,by omega,o2,m3⟩
  revert h f7;generalize ({d2 with s:=ls.length+2,e:=ls.length+2+(bg bn).length - 1}:NH).nd none 0 c3 c8 b6=v;intro h f7;refine⟨kE g,1,1,Sat.ld (i:=7) (cs:=(kw (kE g) 1 1).C.toList) (e:=ae) h (by simp) rfl,?_⟩;refine h.ldB10 v (.head _) ?_;have done: ∀(w:World) (c4:OA) (cf:Nat) (a7:List ai) (d1:OA) (d0:Nat) (b5 e1:List ai),SlS c4 cf (ls.map cv++ [[]]++bg bn) a7->Sl 10 ae d1 2 d0 (u.C.toList++v.C.toList) b5->
   Sat σ w (ndC y (kw (kE g) 1 1)::(a7++(b5++(e1++(V++(U++(bC b q n c W::(E++(PK++Y)))))))))->
   stV w (hZ y 7) (hT d1 2 d0) λw=>aC.k5 R X (kE b) (d:Nat) odd b1 g3 loose g2 g4 g1 f4 y c4 (ls.map cv++ [[]]++bg bn).length cf f5 f3 w:=by
   intro w c4 cf a7 d1 d0 b5 e1 g0 f6 h;refine Sat.st h (k:=0) rfl (by show 7<10;decide) trivial rfl λw h=>?_
   have h:Sat σ w (ndC y (kw d1 2 d0)::(a7++(b5++(e1++(V++(U++(bC b q n c W::(E++(PK++Y))))))))):=h
   have h:Sat σ w (bC b q n c W::ndC y (kw d1 2 d0)::(a7++(b5++(((E++PK)++(V++U))++(e1++Y))))):=h.re
   have i8:abS [.para ls,bn]:=⟨f2,(λc _ hc=>by cases hc),e3.ab,(λc hc=>by cases hc),trivial⟩;have j1:kQ 1 [BN.para ls,bn]= [mV 1 (.para ls),mV (1+(ls.map cv).length+1) bn]:=by rw[kQ,kQ,kQ];rfl
   have:=k5 [.para ls,bn] W d1 d0 _ b5 ((E++PK)++(V++U)) c4 cf a7 e1 w i8 (by simp) (by simp) ⟨by simp only[smB],e3.sm,trivial⟩ (λ_=>⟨⟨ls,[bn],rfl⟩,⟨trivial,?_,trivial⟩,λr7=>(j0 r7).elim⟩) m1 (by rw[zZ];exact g0) (by rw[j1];exact f1.cons f7.one) f6 h
   ·rw[zZ] at this;exact this
   ·have:=e3.fl (by rw[b4.1];exact h6);unfold BS.fq at this⊢;rw[b4.2] at this;exact this
  have q8:(hP #[])=bs []:=rfl;rw[q8];have m2:Sl 10 ae (kE g) 1 1 u.C.toList [ndC g u]:=slN;have s1:(ls.map cv).length<1000:=by rw[lQ0];omega
  have h:Sat σ w (O++(f0++([ndC g u]++(ndC c9 v::ndC y (kw (kE g) 1 1)::(ndC I u::(V++(U++(bC b q n c W::(E++(PK++Y)))))))))):=h.re
  refine zC (Z:=ndC I u::(V++(U++(bC b q n c W::(E++(PK++Y)))))) (o12:=cel (kw (kE g) 1 1).C.toList ae) h5 n3 (by simp only[lA0,lE0];omega) o3 m2 h λw c4 cf a7 p3 r3 i0 h8 g0 f6 h=>?_
  have h:Sat σ w (i0++(a7++(h8++(ndC c9 v::ndC y (kw (kE g) 1 1)::(ndC I u::(V++(U++(bC b q n c W::(E++(PK++Y)))))))))):=h
  exact done w c4 cf a7 p3 r3 i0 (h8++ [ndC c9 v,ndC I u]) g0 f6 h.re
 ·have h:Sat σ w (bC b q n c i4::ndC y (kw (kE g) 1 1)::(O++([ndC g u]++((E++PK)++([ndC I u]++Y))))):=h.re
  have:=k5 [.para ls] i4 (kE g) 1 u.C.toList [ndC g u] (E++PK) r8 r6 O [ndC I u] w k0 (by simp) (by simp) n2 (λ_=>⟨⟨ls,[],rfl⟩,l5 _,λ_=>rfl⟩) b4 (by rw[pZ];exact h5) (by rw[kQ,kQ];exact f1.one) slN h;rw[pZ] at this;exact this
theorem GT {d:Nat}(hd:d<=3)(o3:1<=d->yH (d - 1)):Io d:=by
 intro σ w L R b q n c vs s odd h4 m2 h s9;have t3:i64.max=9223372036854775807:=rfl;refine aC.sound ?_;refine Sat.bx h λb1 w h=>?_
 refine Sat.bx h λy w h=>?_
 have h:Sat σ w (ndC y {}::ndC b1 {}::bC b q n c s::L):=h
 refine h.st10 0 {} (jJ (-1) 45 false none 0 0) λw h=>?_
 have h:Sat σ w (ndC y (jJ (-1) 45 false none 0 0)::ndC b1 {}::bC b q n c s::L):=h
 have k3: ∀(ch:UInt8) (num:Nat) (numI:Int) (loose:Bool) (f2:BS) (w:World),MkP odd ch num numI->(s.flat=true->s.fq=true->loose=false)->s.kp f2->Sat σ w (bC b q n c f2::ndC y (jJ numI ch false none 0 0)::ndC b1 {}::L)->
  aC.k3 R (kE b) (d:Nat) odd b1 y loose w:=by
  intro ch num numI loose f2 w e3 p1 l5 h;refine fg (k:=3) (h4.up λw h=>h.less [ndC y (jJ numI ch false none 0 0),ndC b1 {}]) (by omega) (by omega) h λw m I t8 e9 h=>⟨_,rfl,?_⟩
  have t2:i64.wrap (1+((m:Nat):Int))=((m+1:Nat):Int):=by
   rw[i64_in _ (by omega)];omega
  rw[t2];intro X p3;have r3: ∀k (its:List (List BN)) (d2:OA) (d3:Nat) (O:List ai) (E:OA) (g:Nat) (us:List Value) (RM KM:List ai) (s':BS) (w:World),its.length+k=m+1->abJ its->smJ (d - 1) its->(s.flat=true->flJ s.fq its)->(s.flat=true->s.fq=true->its.all (λit=>it.length==1)=true)->s.kp s'->SlS d2 d3 (dt ch loose num its) O->NDs (uS loose its) us KM->Sl 10 ae E its.length g us RM->
   Sat σ w (bC b q n c s'::ndC y (jJ numI ch (lz loose its) E its.length g)::(O++(RM++(KM++(ndC b1 {}::L)))))->X (kE b) (d:Nat) odd b1 y loose d2 (dt ch loose num its).length d3 ((m+1:Nat):Int) ((its.length:Nat):Int) w:=by
   intro k
   induction k with
   |zero=>
    intro its d2 d3 O E g us RM KM s' w q3 g5 g6 i2 i1 f0 f4 e5 e6 h;refine p3 _ _ _ _ _ _ _ _ _ _ _ _ (af (by rw[decide_eq_false_iff_not];omega) ?_);refine h.tk λw h=>?_
    refine h.ldB10 (jJ numI ch (lz loose its) E its.length g) (.tail _ (.head _)) ?_;have h:Sat σ w (ndC b1 {}::ndC y (jJ numI ch (lz loose its) E its.length g)::(O++(RM++(KM++(bC b q n c s'::L))))):=h.re
    refine h.st10 0 {} (jJ numI ch (lz loose its) E its.length g) λw h=>?_
    have h:Sat σ w (ndC b1 (jJ numI ch (lz loose its) E its.length g)::ndC y (jJ numI ch (lz loose its) E its.length g)::(O++(RM++(KM++(bC b q n c s'::L))))):=h
    refine h.ldB10 _ (.head _) ?_;have e8:its≠ []:=by rintro rfl;simp at q3
    refine s9 w (.list ch num loose its) s' d2 d3 O {kind:=3,num:=numI,char:= [ch],loose:=lz loose its} (uS loose its) E its.length g us RM KM ⟨⟨e3.ch4,by have:=e3.le;omega,e8,g5⟩,?_,?_,λU=>⟨λc4=>⟨p1 U c4,i1 U c4⟩,i2 U⟩⟩ f0 f4 ⟨rfl,rfl,λf U=>?_⟩ e5 e6 (by omega) (h.less [ndC b1 (jJ numI ch (lz loose its) E its.length g),ndC y (jJ numI ch (lz loose its) E its.length g)])
    ·simp only[smB];refine⟨by omega,by omega,?_⟩;have e:d+1 - 2=d - 1:=by omega
     rw[e];exact g6
    ·intro s5 s4;have e:some ch=some s5:=s4;obtain rfl:=Option.some.inj e;have c8:=e3.ch_;cases odd
     ·exact c8
     ·exact c8
    ·rw[mV,e3.num_];rfl
   |succ k q1=>
    intro its d2 d3 O E g us RM KM s' w q3 g5 g6 i2 i1 f0 f4 e5 e6 h;have n0:=(BO.2.2 its g5).1;have p5: ∀x∈its,(aw x).tail≠ []:=λx s6=>by
     obtain⟨c0,r0,rest,e,_⟩:=(tM.2.2 its n0 x s6).2.2;rw[e];simp
    have n2:(dt ch loose num its).length<=2000:=by
     by_cases h0:its= []
     ·subst h0;simp[dt]
     ·have t9:=((pF.2.2 its n0 (d - 1) g6).1 ch loose num).2 h0;have u0:=Fz (show d - 1<=3 by omega);have t7:=lO5 (show its.length<=2 by omega) (show 2*NBd (d - 1)+2<=648 by omega);omega
    refine p3 _ _ _ _ _ _ _ _ _ _ _ _ (ag (by rw[decide_eq_true_eq];omega) ?_);refine Sat.bx h λV w h=>?_
    have h:Sat σ w (ndC V {}::bC b q n c s'::ndC y (jJ numI ch (lz loose its) E its.length g)::(O++(RM++(KM++(ndC b1 {}::L))))):=h
    refine h.st10 0 {} (kw none 0 0) λw h=>?_
    have h:Sat σ w (ndC V (kw none 0 0)::bC b q n c s'::ndC y (jJ numI ch (lz loose its) E its.length g)::(O++(RM++(KM++(ndC b1 {}::L))))):=h
    have h:Sat σ w (bC b q n c s'::(ndC V (kw none 0 0)::ndC y (jJ numI ch (lz loose its) E its.length g)::(O++(RM++(KM++(ndC b1 {}::L)))))):=h.re
    have o4:Rd σ (ndC V (kw none 0 0)::ndC y (jJ numI ch (lz loose its) E its.length g)::(O++(RM++(KM++(ndC b1 {}::L))))) q n vs:=h4.up λw h=>h.less (ndC V (kw none 0 0)::ndC y (jJ numI ch (lz loose its) E its.length g)::(O++(RM++(KM++ [ndC b1 {}]))))
    have k6: ∀(it:List BN) (I:BS) (b5:OA) (b4:Nat) (d0:List Value) (b9 c1:List ai) (c9:OA) (c5:Nat) (b6 d1:List ai) (w:World),abS it->it≠ []->it.length<=2->smS (d - 1) it->(s.flat=true->(∃ls t,it= .para ls::t)/\flS s.fq it/\(s.fq=true->it.length=1))->s.kp I->SlS c9 c5 (aw it).tail b6->NDs (kQ 1 it) d0 c1->Sl 10 ae b5 it.length b4 d0 b9->
     Sat σ w (bC b q n c I::ndC y (jJ numI ch (lz loose its||decide (2<=it.length)) E its.length g)::ndC V (kw b5 it.length b4)::(O++(RM++(KM++(b6++(b9++(c1++(d1++(ndC b1 {}::L)))))))))->
     aC.k6 R X (kE b) (d:Nat) odd b1 y loose d2 (dt ch loose num its).length d3 ((its.length:Nat):Int) V c9 (aw it).tail.length c5 ((m+1:Nat):Int) ((its.length:Nat):Int) w:=by
     intro it I b5 b4 d0 b9 c1 c9 c5 b6 d1 w f5 e8 g0 f3 e7 W h1 g3 g4 h;have q0:(its++ [it]).length=its.length+1:=by simp
     have U:=pF.2.1 it (BO.2.1 it f5).1 (d - 1) f3
     by_cases t5:d=0
     ·refine Dc (d:=d) (by omega) (by omega) e3 (by omega) n2 p5 f5 e8 g0 (Cv.2.1 it (d - 1) d (by omega) f3) f4 e5 e6 h1 g3 g4 h (λw d2 d3 O E g us RM KM f4 e5 e6 h=>?_) rfl;exact q1 (its++ [it]) d2 d3 O E g us RM KM I w (by rw[q0];omega) (ww its it g5 e8 f5) (vB its (d - 1) it g6 g0 f3) (λU=>wg its it (i2 U) (e7 U).1 (e7 U).2.1) (λU c4=>by rw[lG5,i1 U c4];simp[(e7 U).2.2 c4]) W f4 e5 e6 h
     ·refine Dc (d:=d) (by omega) (by omega) e3 (by omega) n2 p5 f5 e8 g0 (Cv.2.1 it (d - 1) d (by omega) f3) f4 e5 e6 h1 g3 g4 h (λw d2 d3 O E g us RM KM f4 e5 e6 h=>?_) rfl;exact q1 (its++ [it]) d2 d3 O E g us RM KM I w (by rw[q0];omega) (ww its it g5 e8 f5) (vB its (d - 1) it g6 g0 f3) (λU=>wg its it (i2 U) (e7 U).1 (e7 U).2.1) (λU c4=>by rw[lG5,i1 U c4];simp[(e7 U).2.2 c4]) W f4 e5 e6 h
    have k5: ∀(it:List BN) (I:BS) (b5:OA) (b4:Nat) (d0:List Value) (b9 c1:List ai) (c9:OA) (c5:Nat) (b6 d1:List ai) (w:World),abS it->it≠ []->it.length<=2->smS (d - 1) it->(s.flat=true->(∃ls t,it= .para ls::t)/\flS s.fq it/\(s.fq=true->it.length=1))->s.kp I->SlS c9 c5 (aw it).tail b6->NDs (kQ 1 it) d0 c1->Sl 10 ae b5 it.length b4 d0 b9->
     Sat σ w (bC b q n c I::ndC y (jJ numI ch (lz loose its) E its.length g)::ndC V (kw b5 it.length b4)::(O++(RM++(KM++(b6++(b9++(c1++(d1++(ndC b1 {}::L)))))))))->
     aC.k5 R X (kE b) (d:Nat) odd b1 y loose d2 (dt ch loose num its).length d3 ((its.length:Nat):Int) V c9 (aw it).tail.length c5 ((m+1:Nat):Int) ((its.length:Nat):Int) w:=by
     intro it I b5 b4 d0 b9 c1 c9 c5 b6 d1 w f5 e8 g0 f3 e7 W h1 g3 g4 h;refine⟨lz loose its,Sat.ld h (.tail _ (.head _)) (i:=5) rfl,bh (λhz=>?_) λhz=>?_⟩
     ·refine Sat.st h (k:=1) rfl (by show 5<10;decide) trivial rfl λw h=>?_
      have h:Sat σ w (bC b q n c I::ndC y (jJ numI ch true E its.length g)::ndC V (kw b5 it.length b4)::(O++(RM++(KM++(b6++(b9++(c1++(d1++(ndC b1 {}::L))))))))):=h
      have e:(lz loose its||decide (2<=it.length))=true:=by rw[hz];rfl
      exact k6 it I b5 b4 d0 b9 c1 c9 c5 b6 d1 w f5 e8 g0 f3 e7 W h1 g3 g4 (by rw[e];exact h)
     ·refine⟨b5,it.length,b4,Sat.ld h (.tail _ (.tail _ (.head _))) (i:=7) rfl,?_⟩;refine Sat.st h (k:=1) rfl (by show 5<10;decide) trivial rfl λw h=>?_
      have h:Sat σ w (bC b q n c I::ndC y (jJ numI ch (decide (((it.length:Nat):Int)>1)) E its.length g)::ndC V (kw b5 it.length b4)::(O++(RM++(KM++(b6++(b9++(c1++(d1++(ndC b1 {}::L))))))))):=h
      have e:(lz loose its||decide (2<=it.length))=decide (((it.length:Nat):Int)>1):=by
       rw[hz,Bool.false_or,decide_eq_decide];omega
      exact k6 it I b5 b4 d0 b9 c1 c9 c5 b6 d1 w f5 e8 g0 f3 e7 W h1 g3 g4 (by rw[e];exact h)
    have r1: ∀ls,lsA ls->abS [.para ls]/\smS (d - 1) [.para ls]/\ ∀o0,flS o0 [.para ls]:=λls g7=>⟨⟨g7,(λc hc=>by cases hc),trivial⟩,⟨by simp only[smB],trivial⟩,λo0=>⟨trivial,trivial⟩⟩
    have s3: ∀(ls:List LT) (E:OA) (h5 g:Nat) (us:List Value) (RM KM:List ai),lsA ls->NDs (inT (ft ls)) us KM->Sl 10 ae E h5 g us RM->h5<=30->NodeDt (mV 1 (.para ls)) (({kind:=6,s:=1,e:=ls.length}:NH).nd none 0 E h5 g) (RM++KM):=by
     intro ls E h5 g us RM KM g7 e5 e6 t6;have e:mV 1 (.para ls)= .mk {kind:=6,s:=1,e:=ls.length} (inT (ft ls)):=by
      rw[mV];have:1+ls.length - 1=ls.length:=by omega
      rw[this]
     rw[e];exact⟨_,_,none,0,E,h5,g,us,RM,KM,rfl,rfl,rfl,by omega,e5,e6⟩
    have r7:decide (((d:Nat):Int)>0)=decide (0<d):=by rw[decide_eq_decide];omega
    rw[r7]
    by_cases g2:(loose && decide (0<d))=true
    ·rw[g2];have i4:1<=d:=by
      have:=(lN1 _ _▸g2).2;rw[decide_eq_true_eq] at this;exact this
     have r4:loose=true:=(lN1 _ _▸g2).1;have s8:i64.wrap (((d:Nat):Int) - 1)=((d - 1:Nat):Int):=by rw[gR (by omega) (by omega)]
     by_cases U:s'.flat=true
     ·have g1:s.flat=true:=by rw[<-f0.1];exact U
      have q4:s.fq=true->False:=λc4=>by have:=p1 g1 c4;rw[r4] at this;cases this
      refine GW (Y:=ndC y (jJ numI ch (lz loose its) E its.length g)::(O++(RM++(KM++(ndC b1 {}::L))))) hd i4 (o3 i4) (h4.up λw h=>h.less (ndC y (jJ numI ch (lz loose its) E its.length g)::(O++(RM++(KM++ [ndC b1 {}]))))) m2 f0 g1 q4 h λit I b5 b4 d0 b9 c1 c9 c5 b6 d1 w a1 a2 a3 a4 a5 s7 t0 a8 a9 h=>?_
      exact k5 it I b5 b4 d0 b9 c1 c9 c5 b6 d1 w a1 a2 a3 a4 a5 s7 t0 a8 a9 h.re
     ·refine ag rfl (aa ⟨_,Sat.ld h (.head _) (i:=3) rfl,af (by simpa using U) ?_⟩);rw[s8];refine tZ (d:=d - 1) (most:=2) (by omega) (by omega) (by omega) (o3 i4) o4 ⟨(f0.dp m2).1,by have:=(f0.dp m2).2;omega⟩ h λw l I m6 m5 c3 n1 n3 r5 m1 k0 i3 e9 m3 i8 j1 h=>⟨_,_,_,_,_,_,rfl,?_⟩
      have h:Sat σ w (ndC V (kw none 0 0)::bC b q n c I::ndC y (jJ numI ch (lz loose its) E its.length g)::(O++(RM++(KM++(c3++(m1++(k0++([]++(ndC b1 {}::L))))))))):=h.re
      refine Sat.st h (k:=0) rfl (by show 7<10;decide) trivial rfl λw h=>?_
      have h:Sat σ w (ndC V (kw n1 l.length n3)::bC b q n c I::ndC y (jJ numI ch (lz loose its) E its.length g)::(O++(RM++(KM++(c3++(m1++(k0++([]++(ndC b1 {}::L))))))))):=h
      refine k5 l I n1 n3 r5 m1 k0 m6 m5 c3 [] w i3.ab i3.ne i3.len i3.sm (λg1=>?_) (f0.trans e9) m3 i8 j1 h.re;exact absurd (by rw[f0.1];exact g1) U
    ·have g2:(loose && decide (0<d))=false:=by simpa using g2
     rw[g2];refine af rfl ?_;refine qu o4 h λw ls I m6 m5 c3 i0 h9 h3 r9 f1 PK g7 e9 m3 i8 j1 r6 h=>⟨_,_,_,_,_,_,_,_,_,_,_,_,_,_,_,_,_,rfl,?_⟩
     obtain⟨q5,r8,q8⟩:=r1 ls g7;refine Sat.bx h λf6 w h=>?_
     have h:Sat σ w (ndC f6 {}::(c3++(f1++(PK++(bC b q n c I::(ndC V (kw none 0 0)::ndC y (jJ numI ch (lz loose its) E its.length g)::(O++(RM++(KM++(ndC b1 {}::L)))))))))):=h
     refine h.st10 0 {} (({kind:=6}:NH).nd none 0 i0 h9 h3) λw h=>?_
     have h:Sat σ w (ndC f6 (({kind:=6}:NH).nd none 0 i0 h9 h3)::(c3++(f1++(PK++(bC b q n c I::(ndC V (kw none 0 0)::ndC y (jJ numI ch (lz loose its) E its.length g)::(O++(RM++(KM++(ndC b1 {}::L)))))))))):=h
     refine Sat.st h (k:=0) rfl (by show 8<10;decide) trivial rfl λw h=>?_
     refine Sat.st h (k:=0) rfl (by show 9<10;decide) trivial rfl λw h=>h.tk λw h=>?_
     rw[lQ0] at h;have h:Sat σ w (ndC f6 (({kind:=6,s:=1,e:=ls.length}:NH).nd none 0 i0 h9 h3)::(c3++(f1++(PK++(bC b q n c I::(ndC V (kw none 0 0)::ndC y (jJ numI ch (lz loose its) E its.length g)::(O++(RM++(KM++(ndC b1 {}::L)))))))))):=h
     have j0:=s3 ls i0 h9 h3 r9 f1 PK g7 i8 j1 r6;revert h j0;generalize ({kind:=6,s:=1,e:=ls.length}:NH).nd none 0 i0 h9 h3=u;intro h j0;refine h.ldB10 u (.head _) ?_;refine Sat.buildN h u λf7 w h=>?_
     have h:Sat σ w (ndC f7 u::ndC f6 u::(c3++(f1++(PK++(bC b q n c I::(ndC V (kw none 0 0)::ndC y (jJ numI ch (lz loose its) E its.length g)::(O++(RM++(KM++(ndC b1 {}::L)))))))))):=h
     have h:Sat σ w (ndC V (kw none 0 0)::ndC f7 u::ndC f6 u::(c3++(f1++(PK++(bC b q n c I::(ndC y (jJ numI ch (lz loose its) E its.length g)::(O++(RM++(KM++(ndC b1 {}::L)))))))))):=h.re
     refine Sat.st h (k:=0) rfl (by show 7<10;decide) trivial rfl λw h=>?_
     have h:Sat σ w (ndC V (kw (kE f7) 1 1)::ndC f7 u::ndC f6 u::(c3++(f1++(PK++(bC b q n c I::(ndC y (jJ numI ch (lz loose its) E its.length g)::(O++(RM++(KM++(ndC b1 {}::L)))))))))):=h
     have m4:(lz loose its||decide (2<=([BN.para ls]:List BN).length))=lz loose its:=by simp
     have h:Sat σ w (bC b q n c I::ndC y (jJ numI ch (lz loose its) E its.length g)::ndC V (kw (kE f7) 1 1)::(O++(RM++(KM++(c3++([ndC f7 u]++((f1++PK)++([ndC f6 u]++(ndC b1 {}::L))))))))):=h.re
     have:=k6 [.para ls] I (kE f7) 1 u.C.toList [ndC f7 u] (f1++PK) m6 m5 c3 [ndC f6 u] w q5 (by simp) (by simp) r8 (λ_=>⟨⟨ls,[],rfl⟩,q8 _,λ_=>rfl⟩) (f0.trans e9.kp) (by rw[pZ];exact m3) (by rw[kQ,kQ];exact j0.one) slN (by rw[m4];exact h);rw[pZ] at this;exact this
  have m4:lz loose []=false:=by cases loose<;>rfl
  exact r3 (m+1) [] none 0 [] none 0 [] [] [] I w (by simp) trivial trivial (λ_=>trivial) (λ_ _=>rfl) (l5.trans e9.kp) SlS.nil .nil (Sl.nil 10 ae) (by rw[m4];exact h)
 have k2: ∀(ch:UInt8) (num:Nat) (numI:Int) (f2:BS) (w:World),MkP odd ch num numI->s.kp f2->Sat σ w (bC b q n c f2::ndC y (jJ numI ch false none 0 0)::ndC b1 {}::L)->aC.k2 R (kE b) (d:Nat) odd b1 y w:=by
  intro ch num numI f2 w e3 l5 h;refine fg (k:=2) (h4.up λw h=>h.less [ndC y (jJ numI ch false none 0 0),ndC b1 {}]) (by omega) (by omega) h λw r I hr e9 h=>⟨_,rfl,?_⟩
  have W:=l5.trans e9.kp;refine bh (λ_=>aa ⟨_,Sat.ld h (.head _) (i:=3) rfl,bh (λU=>aa ⟨_,Sat.ld h (.head _) (i:=4) rfl,?_⟩) λU=>?_⟩) λ_=>k3 ch num numI false I w e3 (λ_ _=>rfl) W h
  ·refine k3 ch num numI _ I w e3 (λ_ c4=>?_) W h;have:decide (I.deep>0)=true:=by
    have e:I.deep=s.deep:=W.2;rw[e];exact c4
   rw[this];rfl
  ·refine k3 ch num numI true I w e3 (λg1 _=>?_) W h;rw[W.1,g1] at U;cases U
 have k1: ∀(e4:UInt8) (w:World),(if odd then e4=43 else e4=45)->Sat σ w (ndC y (jJ (-1) e4 false none 0 0)::ndC b1 {}::bC b q n c s::L)->aC.k1 R (kE b) (d:Nat) odd b1 y w:=by
  intro e4 w c8 h;have h:Sat σ w (bC b q n c s::ndC y (jJ (-1) e4 false none 0 0)::ndC b1 {}::L):=h.re
  have o2:Rd σ (ndC y (jJ (-1) e4 false none 0 0)::ndC b1 {}::L) q n vs:=h4.up λw h=>h.less [ndC y (jJ (-1) e4 false none 0 0),ndC b1 {}]
  refine fg (k:=2) o2 (by omega) (by omega) h λw r f2 hr p4 h=>⟨_,rfl,?_⟩
  refine bh (λ_=>?_) λ_=>k2 e4 0 (-1) f2 w ⟨?_,?_,by omega⟩ p4.kp h
  ·refine fg (k:=30) o2 (by omega) (by omega) h λw num I t4 e9 h=>⟨_,rfl,?_⟩
   refine Sat.st h (k:=1) rfl (by show 3<10;decide) trivial rfl λw h=>?_
   refine Sat.st h (k:=1) rfl (by show 4<10;decide) trivial rfl λw h=>?_
   have h:Sat σ w (bC b q n c I::ndC y (jJ ((num:Nat):Int) 46 false none 0 0)::ndC b1 {}::L):=h
   have W:=p4.kp.trans e9.kp;cases odd with
   |true=>
    refine ag rfl ?_;refine Sat.st h (k:=1) rfl (by show 4<10;decide) trivial rfl λw h=>?_
    exact k2 41 num num I w ⟨.inr rfl,rfl,by omega⟩ W h
   |false=>exact af rfl (k2 46 num num I w ⟨.inr rfl,rfl,by omega⟩ W h)
  ·cases odd
   ·exact .inl c8
   ·exact .inl c8
  ·cases odd
   ·have c8:e4=45:=c8;subst c8;rfl
   ·have c8:e4=43:=c8;subst c8;rfl
 cases odd with
 |true=>
  refine ag rfl ?_;refine Sat.st h (k:=0) rfl (by show 4<10;decide) trivial rfl λw h=>?_
  exact k1 43 w rfl h
 |false=>exact af rfl (k1 45 w rfl h)
theorem DX: ∀d,d<=3->yH d:=by
 intro d
 induction d using Nat.strongRecOn with
 |_ d g=>
  intro hd;refine Fm hd (λy=>tZ (by omega) (by omega) (by omega) (g (d - 1) (by omega) (by omega))) λy=>GT (by omega) λE=>g (d - 1 - 1) (by omega) (by omega)
theorem BG {d most:Nat}(hd:d<=3)(y:1<=most)(g:most<=4):zU d most:=tZ hd y g (DX d hd)
def nW (R:EP)(w:World):Prop:=box w #[hV false,hV false,hV false,hV false,hV false,hV false,hV false,hV false,hV false,hV false] fB λb1 c1=>stV c1 (hZ b1 0) (hV false) λc3=>stV c3 (hZ b1 1) (hV false) λb7=>stV b7 (hZ b1 2) (hV false) λb8=>stV b8 (hZ b1 3) (hV false) λb6=>stV b6 (hZ b1 4) (hV false) λc4=>stV c4 (hZ b1 5) (hV false) λc2=>stV c2 (hZ b1 6) (hV false) λb9=>stV b9 (hZ b1 7) (hV false) λb5=>stV b5 (hZ b1 8) (hV false) λb4=>stV b4 (hZ b1 9) (hV false) λg=>∃W,g.cell? (hZ b1 0)=some (hV W)/\∃a7,g.cell? (hZ b1 1)=some (hV a7)/\∃I,g.cell? (hZ b1 2)=some (hV I)/\∃b3,g.cell? (hZ b1 3)=some (hV b3)/\∃O,g.cell? (hZ b1 4)=some (hV O)/\∃y,g.cell? (hZ b1 5)=some (hV y)/\∃a6,g.cell? (hZ b1 6)=some (hV a6)/\∃U,g.cell? (hZ b1 7)=some (hV U)/\∃E,g.cell? (hZ b1 8)=some (hV E)/\∃V,g.cell? (hZ b1 9)=some (hV V)/\R (hQ (.agg #[hV W,hV a7,hV I,hV b3,hV O,hV y,hV a6,hV U,hV E,hV V])) g
theorem nW.sound {R w}(h:nW R w):callE P nM #[] R w:=
 cF Tryz.func15 Tryz.call15 h

theorem zf (h:Sat σ w L)(g: ∀w,Sat σ w L->R (hQ (optV FQ)) w):callE P nM #[] R w:=by
 refine nW.sound ?_;refine Sat.bx h λb1 w h=>?_
 repeat (first|refine aa ?_|refine h.tk λw h=>?_|refine⟨_,h.ldA,?_⟩|refine⟨_,_,_,h.ldA,?_⟩|refine h.stA 0 λw h=>?_|refine h.stA 1 λw h=>?_|refine h.stA 2 λw h=>?_|refine h.stA 3 λw h=>?_|refine h.stA 4 λw h=>?_|refine h.stA 5 λw h=>?_|refine h.stA 6 λw h=>?_|refine h.bx λb0 w h=>?_)
 exact g _ h.tail

theorem H8 {q:OA}{n c:Nat}(g:R (hQ (hV (decide (n<=300)))) w):callE P rf #[hT q n c] R w:=by
 refine oK.sound ?_;have e:decide (((n:Nat):Int)<=300)=decide (n<=300):=by rw[decide_eq_decide];omega
 unfold oK;rw[e];exact g
theorem Hb {l:List BN}(I:okS l)(hd:dsS l)(y:l≠ [])(W:(aw l).length<=1300)(O:dpT l<=12):(bl [10] (aw l).tail).length<1000000:=by
 have E:=ye.2.1 l I hd y;have g:(aw l).tail.length<=1300:=by rw[lR2];omega
 have U:=oE (n:=768) (aw l).tail λs hs=>by have:=(E.ch s hs).2;omega
 have V:=lC2 769 g;omega
def Gc (σ:Out)(L:List ai)(R:Ending->World->Prop)(fl:Bool):Prop:=
 ∀w (l:List BN) (y:OA) (g:Nat) (us:List Value) (RM KM:List ai),FA 3 4 ⟨0,0,fl,0⟩ l->NDs (kQ 1 l) us KM->Sl 10 ae y l.length g us RM->Sat σ w (RM++(KM++L))->R (hQ (.tuple #[hX (bs (bl [10] (aw l).tail)),(({kind:=1}:NH).nd none 0 y l.length g).V])) w
theorem CV {l:List BN}{s:BS}(g:FA 3 4 s l):okS l/\dsS l/\l≠ []/\(aw l).length<=1300/\dpT l<=12:=by
 obtain⟨y,E⟩:=BO.2.1 l g.ab;obtain⟨O,I⟩:=G9 y g.len g.sm;exact⟨y,E,g.ne,O,I⟩
theorem DU {b1:Nat}{l:List BN}{fl:Bool}{a7:OA}{W:Nat}{I:List ai}{E:OA}{g:Nat}{us:List Value}{RM KM X:List ai}(c4:Gc σ L R fl)(a6:FA 3 4 ⟨0,0,fl,0⟩ l)(c8:SlS a7 W (aw l).tail I)(b8:NDs (kQ 1 l) us KM)(c1:Sl 10 ae E l.length g us RM)(h:Sat σ w (ndC b1 {}::(I++(RM++(KM++(X++L)))))):
 callE P fU #[hT a7 (aw l).tail.length W,hX (hP #[10])] (λe c2=> ∃(U:BA),e= hQ (hX U)/\st10 c2 b1 {a0:=1,q7:=E,n7:=l.length,c7:=g} λO=>ldB10 O b1 λb4=>R (hQ (.tuple #[hX U,b4.V])) O) w:=by
 obtain⟨b7,c3,b9,c5,b5⟩:=CV a6;have c9:=Hb b7 c3 b9 c5 b5;have b3:((hP #[10]):ByteArray)=bs [10]:=rfl
 rw[b3];refine qc (L:=ndC b1 {}::(I++(RM++(KM++(X++L))))) (SArg.ofSl c8 λy b6=> .tail _ (lC1 _ b6)) h (by rw[lR2];omega) (by omega) (by simp) λw h=>⟨_,rfl,?_⟩
 refine h.st10 0 {} (({kind:=1}:NH).nd none 0 E l.length g) λw h=>?_
 have h:Sat σ w (ndC b1 (({kind:=1}:NH).nd none 0 E l.length g)::(I++(RM++(KM++(X++L))))):=h
 refine h.ldB10 _ (.head _) ?_;exact c4 w l E g us RM KM a6 b8 c1 (h.less (ndC b1 (({kind:=1}:NH).nd none 0 E l.length g)::(I++X)))
theorem Fl {q:OA}{n c:Nat}{vs:List UInt8}(O:BArg σ L q n vs)(a7:n<=300)(h:Sat σ w L)(I:Gc σ L R false):callE P nN #[hT q n c] R w:=by
 refine nX.sound ?_;refine Sat.bx h λb1 w h=>?_
 refine Sat.bx h λg w h=>?_
 have h:Sat σ w (bC g q n c ⟨0,0,false,0⟩::(ndC b1 {}::L)):=h
 have y:Rd σ L q n vs:=⟨O,by omega⟩;refine BG (d:=3) (most:=4) (by omega) (by omega) (by omega) (y.up λw h=>h.less [ndC b1 {}]) ⟨by show (0:Int)<=0;omega,by show (0:Int)+((3:Nat):Int)<=100;omega⟩ h λw l s' b7 b5 b6 b4 a6 us RM KM W b8 U V E h=>⟨_,_,_,_,_,_,rfl,?_⟩
 exact DU (X:= [bC g q n c s']) I W U V E h.re
namespace fZ
def bl2 (R:EP)(Xa:Nat->Nat->Int->Int->WP)(b3 a7:Nat)(a6 g:Int)(w:World):Prop:=br (decide (g<a6)) (tk w λy=>∃I O b4,y.cell? (hZ b3 7)=some (hT I O b4)/\0<=g/\g<(O:Int)/\aA I λb7=>ldA10 y (b7.add (Int.toNat g*10)) λc1=>∃E U b5,y.cell? (hZ a7 7)=some (hT E U b5)/\0<=g/\g<(U:Int)/\aA E λb8=>ldA10 y (b8.add (Int.toNat g*10)) λb6=>callE P kW #[c1.V,b6.V] (λe b9=>∃W,e= hQ (hV W)/\br (!W) (False) (Xa b3 a7 a6 (i64.wrap (g+1)) b9)) y) (R (hQ (hV true)) w)
def l2 (R:EP)(I E:Nat)(g y:Int)(w:World):Prop:=∀X:Nat->Nat->Int->Int->WP,(∀I E g y w,bl2 R X I E g y w->X I E g y w)->X I E g y w
def bl1 (R:EP)(W:Nat->Nat->Int->Int->WP)(y V:Nat)(O U:Int)(w:World):Prop:=br (decide (U<O)) (False) (∃I g E,w.cell? (hZ y 7)=some (hT I g E)/\l2 R y V (g:Int) 0 w)
def l1 (R:EP)(I E:Nat)(y g:Int)(w:World):Prop:=∀X:Nat->Nat->Int->Int->WP,(∀I E y g w,bl1 R X I E y g w->X I E y g w)->X I E y g w
def k1 (R:EP)(y O:Nat)(w:World):Prop:=∃I g E,w.cell? (hZ y 6)=some (hT I g E)/\l1 R y O (g:Int) 0 w
end fZ
def fZ (R:EP)(f3:Int)(g6 e6:BA)(g3:Int)(f7:BA)(g7:Bool)(e0:OA)(c4 c5:Nat)(c9:OA)(d0 e2:Nat)(e8 h1 e5:Int)(g4 f6:BA)(g1:Int)(f2:BA)(e9:Bool)(e1:OA)(c8 c3:Nat)(d1:OA)(d2 d3:Nat)(f4 e7:Int)(w:World):Prop:=box w (N10.C {a0:=f3,a1:=g6,a2:=e6,a3:=g3,a4:=f7,a5:=g7,q6:=e0,n6:=c4,c6:=c5,q7:=c9,n7:=d0,c7:=e2,a8:=e8,a9:=h1}) ae λb1 h2=>box h2 (N10.C {a0:=e5,a1:=g4,a2:=f6,a3:=g1,a4:=f2,a5:=e9,q6:=e1,n6:=c8,c6:=c3,q7:=d1,n7:=d2,c7:=d3,a8:=f4,a9:=e7}) ae λy g=>∃b8,g.cell? (hZ b1 0)=some (hY b8)/\∃c2,g.cell? (hZ y 0)=some (hY c2)/\br (b8 !=c2) (False) (∃b7,g.cell? (hZ b1 1)=some (hX b7)/\∃b9,g.cell? (hZ y 1)=some (hX b9)/\br (!(b7.toList==b9.toList)) (False) (∃c1,g.cell? (hZ b1 2)=some (hX c1)/\∃a6,g.cell? (hZ y 2)=some (hX a6)/\br (!(c1.toList==a6.toList)) (False) (∃W,g.cell? (hZ b1 3)=some (hY W)/\∃b4,g.cell? (hZ y 3)=some (hY b4)/\br (W !=b4) (False) (∃a7,g.cell? (hZ b1 4)=some (hX a7)/\∃b5,g.cell? (hZ y 4)=some (hX b5)/\br (!(a7.toList==b5.toList)) (False) (∃V,g.cell? (hZ b1 5)=some (hV V)/\∃b6,g.cell? (hZ y 5)=some (hV b6)/\br (!(V==b6)) (False) (∃g5 I f5,g.cell? (hZ b1 6)=some (hT g5 I f5)/\∃f1 E g0,g.cell? (hZ y 6)=some (hT f1 E g0)/\br ((I:Int) !=(E:Int)) (False) (∃e3 O e4,g.cell? (hZ b1 7)=some (hT e3 O e4)/\∃g2 U f0,g.cell? (hZ y 7)=some (hT g2 U f0)/\br ((O:Int) !=(U:Int)) (False) (fZ.k1 R b1 y g))))))))
theorem fZ.sound {R x0_0 x0_1 x0_2 x0_3 x0_4 x0_5 x0_6q x0_6n x0_6c x0_7q x0_7n x0_7c x0_8 x0_9 x1_0 x1_1 x1_2 x1_3 x1_4 x1_5 x1_6q x1_6n x1_6c x1_7q x1_7n x1_7c x1_8 x1_9 w}(h:fZ R x0_0 x0_1 x0_2 x0_3 x0_4 x0_5 x0_6q x0_6n x0_6c x0_7q x0_7n x0_7c x0_8 x0_9 x1_0 x1_1 x1_2 x1_3 x1_4 x1_5 x1_6q x1_6n x1_6c x1_7q x1_7n x1_7c x1_8 x1_9 w):callE P kW #[(N10.V {a0:=x0_0,a1:=x0_1,a2:=x0_2,a3:=x0_3,a4:=x0_4,a5:=x0_5,q6:=x0_6q,n6:=x0_6n,c6:=x0_6c,q7:=x0_7q,n7:=x0_7n,c7:=x0_7c,a8:=x0_8,a9:=x0_9}),(N10.V {a0:=x1_0,a1:=x1_1,a2:=x1_2,a3:=x1_3,a4:=x1_4,a5:=x1_5,q6:=x1_6q,n6:=x1_6n,c6:=x1_6c,q7:=x1_7q,n7:=x1_7n,c7:=x1_7c,a8:=x1_8,a9:=x1_9})] R w:=
 aG [(21,.no),(7,.mk [46,66] (fZ.k1 R)),(43,.lp [46,66,1347,1367] (fZ.bl1 R) λg=> [(9,.no),(83,.dr (rpN [0,6,15,21,4,9,13,19,24,28,30])),(179,.no),(243,.no)]),(87,.lp [46,66,1707,1727] (fZ.bl2 R) λXa=> [(83,.dr (rpN [0,6,15,21,4,9,13,19,24,28,32,33])),(179,.no)])] Tryz.func12 Tryz.call12 h

def Ik (u v:N10)(T S:List ai):Prop:=
 ∀(σ:Out) (R:Ending->World->Prop) (L:List ai) (w:World),Sat σ w (T++(S++L))->(∀w,Sat σ w (T++(S++L))->R (hQ (hV true)) w)->callE P kW #[u.V,v.V] R w
inductive vi:List Value->List Value->List ai->List ai->Prop where
 |nil:vi [] [] [] []
 |cons {u v:N10} {us vs:List Value} {T S T' S':List ai}:Ik u v T S->vi us vs T' S'->vi (u.C.toList++us) (v.C.toList++vs) (T++T') (S++S')
theorem w0 {h0:NH}{q O qa I:OA}{n c y ca E:Nat}{us vs:List Value}{RM KM a7 b7:List ai}(d0:vi us vs KM b7)(e0:Sl 10 ae q n c us RM)(d2:Sl 10 ae O n y vs a7)(f6:n<1073741824):
 Ik (h0.nd qa ca q n c) (h0.nd I E O n y) (RM++KM) (a7++b7):=by
 intro σ R L w h b4;refine fZ.sound ?_;refine Sat.bx h λb1 w h=>?_
 refine Sat.bx h λU w h=>?_
 have h:Sat σ w ((U,cel (h0.nd I E O n y).C.toList ae)::(b1,cel (h0.nd qa ca q n c).C.toList ae)::((RM++KM)++((a7++b7)++L))):=h
 have g:(b1,cel (h0.nd qa ca q n c).C.toList ae)∈((U,cel (h0.nd I E O n y).C.toList ae)::(b1,cel (h0.nd qa ca q n c).C.toList ae)::((RM++KM)++((a7++b7)++L))):= .tail _ (.head _)
 have V:(U,cel (h0.nd I E O n y).C.toList ae)∈((U,cel (h0.nd I E O n y).C.toList ae)::(b1,cel (h0.nd qa ca q n c).C.toList ae)::((RM++KM)++((a7++b7)++L))):= .head _
 refine⟨_,Sat.ld h g (i:=0) rfl,_,Sat.ld h V (i:=0) rfl,af (by simp) ?_⟩;refine⟨_,Sat.ld h g (i:=1) rfl,_,Sat.ld h V (i:=1) rfl,af (by simp) ?_⟩;refine⟨_,Sat.ld h g (i:=2) rfl,_,Sat.ld h V (i:=2) rfl,af (by simp) ?_⟩;refine⟨_,Sat.ld h g (i:=3) rfl,_,Sat.ld h V (i:=3) rfl,af (by simp) ?_⟩;refine⟨_,Sat.ld h g (i:=4) rfl,_,Sat.ld h V (i:=4) rfl,af (by simp) ?_⟩;refine⟨_,Sat.ld h g (i:=5) rfl,_,Sat.ld h V (i:=5) rfl,af (by simp) ?_⟩;refine⟨_,_,_,Sat.ld h g (i:=6) rfl,_,_,_,Sat.ld h V (i:=6) rfl,af (by simp) ?_⟩;refine⟨_,_,_,Sat.ld h g (i:=7) rfl,_,_,_,Sat.ld h V (i:=7) rfl,af (by simp) ?_⟩;refine⟨_,_,_,Sat.ld h g (i:=6) rfl,?_⟩;intro Y e7;refine e7 _ _ _ _ _ (af rfl ⟨_,_,_,Sat.ld h g (i:=7) rfl,?_⟩);intro X d3;have c4:=e0.1;have f2:=d2.1;have e4: ∀(b5 b6:List Value) (K c3:List ai),vi b5 b6 K c3-> ∀(W a6:List Value) (D b8:List ai) (j:Nat) w,W++b5=us->a6++b6=vs->W.length=j*10->a6.length=j*10->
  Sat σ w ((U,cel (h0.nd I E O n y).C.toList ae)::(b1,cel (h0.nd qa ca q n c).C.toList ae)::(RM++(a7++((D++K)++((b8++c3)++L)))))->
  (∀w,Sat σ w ((U,cel (h0.nd I E O n y).C.toList ae)::(b1,cel (h0.nd qa ca q n c).C.toList ae)::(RM++(a7++((D++K)++((b8++c3)++L)))))->R (hQ (hV true)) w)->X b1 U (n:Int) (j:Nat) w:=by
  intro b5 b6 K c3 d0
  induction d0 with
  |nil=>
   intro W a6 D b8 j w b9 hv c9 d1 h b4;have:j=n:=by rw[<-b9] at c4;simp at c4;omega
   exact d3 _ _ _ _ _ (af (by simp;omega) (b4 w h))
  | @cons u v b5 b6 T S T' S' g1 g2 ih=>
   intro W a6 D b8 j w b9 hv c9 d1 h b4;have e6:u.C.toList.length=10:=rfl;have f1:j<n:=by rw[<-b9] at c4;simp only[lA0,e6] at c4;omega
   refine d3 _ _ _ _ _ (ag (by simp;omega) (h.tk λw h=>?_));refine⟨_,_,_,Sat.ld h (.tail _ (.head _)) (i:=7) rfl,by omega,by show (j:Int)<(n:Int);omega,?_⟩;have e3:=e0;obtain⟨_,_,⟨rfl,hz,_,_⟩|⟨c8,sp,rfl,rfl,f4⟩⟩:=e3
   ·omega
   have e5:=d2;obtain⟨_,_,⟨rfl,hz,_,_⟩|⟨c5,c1,rfl,rfl,f0⟩⟩:=e5
   ·omega
   refine aa ?_;simp only[lL0,lC0,lO0];have e8:us++sp=W++(u.C.toList++(b5++sp)):=by rw[<-b9];simp only[lD0]
   have e9:vs++c1=a6++(v.C.toList++(b6++c1)):=by rw[<-hv];simp only[lD0]
   refine Sat.ldA10 h u (b:=c8) (pre:=W) (suf:=b5++sp) (e:=ae) (by rw[<-e8];simp) c9 ?_;refine⟨_,_,_,Sat.ld h (.head _) (i:=7) rfl,by omega,by show (j:Int)<(n:Int);omega,aa ?_⟩;simp only[lL0,lC0,lO0];refine Sat.ldA10 h v (b:=c5) (pre:=a6) (suf:=b6++c1) (e:=ae) (by rw[<-e9];simp) d1 ?_;generalize f3:((U,cel (h0.nd I E (kE c5) n y).C.toList ae):ai)=k3 at h b4 ih⊢;generalize f5:((b1,cel (h0.nd qa ca (kE c8) n c).C.toList ae):ai)=k1 at h b4 ih⊢;have h:Sat σ w (T++(S++(k3::k1::([(c8,cel (us++sp) ae)]++([(c5,cel (vs++c1) ae)]++((D++T')++((b8++S')++L))))))):=h.re
   refine g1 σ _ _ w h λw h=>⟨_,rfl,af rfl ?_⟩
   rw[aL (by omega)];refine ih (W++u.C.toList) (a6++v.C.toList) (D++T) (b8++S) (j+1) w (by rw[<-b9];simp only[lD0]) (by rw[<-hv];simp only[lD0]) (by rw[lA0,c9,lV3];rfl) (by rw[lA0,d1,lV3];rfl) h.re (λw h=>b4 w h.re)
 exact e4 us vs KM b7 d0 [] [] [] [] 0 w rfl rfl rfl rfl h.re (λw h=>b4 w (Sat.less [(U,cel (h0.nd I E O n y).C.toList ae),(b1,cel (h0.nd qa ca q n c).C.toList ae)] h))
theorem HL {xs:List ND}{us:List Value}{M:List ai}(h:NDs xs us M): ∀ {vs:List Value} {N:List ai},NDs xs vs N->vi us vs M N:=by
 induction h with
 |nil=>intro vs N g;cases g;exact .nil
 | @cons h0 ks xs qa ca q n c us us' RM KM XM a1 a2 a3 a4 ih1 ih2=>
  intro vs N g;cases g with
  | @cons _ _ _ qa2 ca2 q2 n2 c2 vs vs' RM2 KM2 XM2 b1 b2 b3 b4=>
   have e:n2=n:=by have I:=a2.len;have E:=b2.len;have O:=a3.1;have y:=b3.1;omega
   subst e;exact .cons (w0 (ih1 b2) a3 b3 a1) (ih2 b4)
theorem GB {x:ND}{u v:N10}{M N:List ai}(y:NodeDt x u M)(hv:NodeDt x v N)(h:Sat σ w (M++(N++L)))(I: ∀w,Sat σ w (M++(N++L))->R (hQ (hV true)) w):callE P kW #[u.V,v.V] R w:=by
 obtain⟨h0,b5,qa,ca,q,n,c,us,RM,KM,rfl,rfl,rfl,a1,a2,a3⟩:=y;obtain⟨b7,W,a6,a7,b4,E,c1,vs,O,U,e,rfl,rfl,b1,b2,g⟩:=hv;obtain⟨rfl,rfl⟩:=ND.mk.inj e;have e:E=n:=by have b9:=a2.len;have b8:=b2.len;have c3:=a3.1;have b6:=g.1;omega
 subst e;exact w0 (HL a2 b2) a3 g a1 σ R L w h I
namespace fm
def bl1 (R:EP)(Xa:BA->OA->Nat->Nat->Int->Int->WP)(y:BA)(I:OA)(O U:Nat)(E g:Int)(w:World):Prop:=br (decide (g<(y.size:Int))) (0<=g/\g<(y.size:Int)/\br ((bt y g)==10) (0<=E/\E<=g/\g<=(y.size:Int)/\∃b6 a6,∃W c4,(Instr.buildSlice al 1 #[(0,hX (y.extract (Int.toNat E) (Int.toNat g)))]).run P w= .ok (hT b6 a6 W) c4/\∃c1 b5,∃a7 c3,(Builtin.append_ #[al,al] al #[hT I O U,hT b6 a6 W]).run P c4= .ok (hT c1 b5 a7) c3/\Xa y c1 b5 a7 (i64.wrap (g+1)) (i64.wrap (g+1)) c3) (Xa y I O U E (i64.wrap (g+1)) w)) (0<=E/\E<=(y.size:Int)/\∃b8 b3,∃V c2,(Instr.buildSlice al 1 #[(0,hX (y.extract (Int.toNat E) y.size))]).run P w= .ok (hT b8 b3 V) c2/\∃b9 b4,∃b7 c5,(Builtin.append_ #[al,al] al #[hT I O U,hT b8 b3 V]).run P c2= .ok (hT b9 b4 b7) c5/\R (hQ (hT b9 b4 b7)) c5)
def l1 (R:EP)(U:BA)(y:OA)(g E:Nat)(I O:Int)(w:World):Prop:=∀X:BA->OA->Nat->Nat->Int->Int->WP,(∀U y g E I O w,bl1 R X U y g E I O w->X U y g E I O w)->X U y g E I O w
end fm
def fm (R:EP)(g:BA)(w:World):Prop:=fm.l1 R g none 0 0 0 0 w
theorem fm.sound {R x0 w}(h:fm R x0 w):callE P jZ #[hX x0] R w:=
 aG [(87,.lp [1,63,87,107] (fm.bl1 R) λXa=> [])] Tryz.func20 Tryz.call20 h

theorem pp: ∀(a b:List UInt8),10 ∉ a->gJ (a++10::b)=a::gJ b
 | [],b,_=>by rw[lT0,gJ,if_pos rfl]
 |c::a,b,h=>by
  have hc:c≠10:=λe=>h (by rw[e];exact .head _)
  rw[lR0,gJ,if_neg hc,pp a b λm=>h (.tail _ m)]
theorem po: ∀(a:List UInt8),10 ∉ a->gJ a= [a]
 | [],_=>rfl
 |c::a,h=>by
  have hc:c≠10:=λe=>h (by rw[e];exact .head _)
  rw[gJ,if_neg hc,po a λm=>h (.tail _ m)]
theorem qO: ∀ {ls:List (List UInt8)},ls≠ []->(∀l∈ls,10 ∉ l)->gJ (bl [10] ls)=ls
 | [],h,_=>absurd rfl h
 | [x],_,h=>by
  have e:bl [10] [x]=x:=by simp[bl]
  rw[e,po x (h x (.head _))]
 |x::y::r,_,h=>by
  have E:=qO (ls:=y::r) (by simp) λl g=>h l (.tail _ g)
  have e:bl [10] (x::y::r)=x++10::bl [10] (y::r):=by simp[bl]
  rw[e,pp x _ (h x (.head _)),E]
theorem uQ {s:List UInt8}(hs:s.length<1000000)(c9:(gJ s).length<100000)(h:Sat σ w L)(c8: ∀w q c M,SlS q c (gJ s) M->Sat σ w (M++L)->R (hQ (hT q (gJ s).length c)) w):callE P jZ #[hX (bs s)] R w:=by
 refine fm.sound ?_;intro X b5;have c1: ∀k i j (done:List (List UInt8)) (q:OA) (c:Nat) (M:List ai) (w:World),i+k=s.length->j<=i->10 ∉ sub s j i->done++gJ (s.drop j)=gJ s->SlS q c done M->Sat σ w (M++L)->X (bs s) q done.length c (j:Nat) (i:Nat) w:=by
  intro k
  induction k with
  |zero=>
   intro i j done q c M w hi c4 y hd O h;obtain rfl:i=s.length:=hi;refine b5 _ _ _ _ _ _ _ (af (by rw[decide_eq_false_iff_not,aF];omega) ⟨by omega,by rw[aF];omega,?_⟩);have b6:sub s j s.length=s.drop j:=by unfold sub;rw[lP2]
   have c5:(bs s).extract (Int.toNat ((j:Nat):Int)) (bs s).size=bs (s.drop j):=by
    rw[lC0,aF,bV]
    show bs (sub s j s.length)=_
    rw[b6]
   rw[c5];rw[b6] at y;have g:done++ [s.drop j]=gJ s:=by rw[<-hd,po _ y]
   have V:done.length<1000000:=by
    have:=congrArg List.length g;rw[lA0] at this;omega
   refine Sat.appS O h _ V λa6 a7 w b3 I h=>?_
   rw[g] at I⊢;exact c8 w a6 a7 b3 I h
  |succ k b7=>
   intro i j done q c M w hi c4 y hd O h;have W:i<s.length:=by omega
   refine b5 _ _ _ _ _ _ _ (ag (by rw[decide_eq_true_eq,aF];omega) ⟨by omega,by rw[aF];omega,?_⟩);rw[pH W];have b8:sub s j (i+1)=sub s j i++ [s[i]]:=by
    unfold sub;rw[lB1 W,lM2 (by rw[lY0];omega)]
   refine bh (λhc=>?_) λhc=>?_
   ·have U:s[i]=10:=by
     have:((s[i].toNat:Nat):Int)=((10:Nat):Int):=eq_of_beq hc
     exact lK6.1 (by show s[i].toNat=10;omega)
    refine⟨by omega,by omega,by rw[aF];omega,?_⟩;rw[lC0,lC0,bV];have b9:s.drop j=sub s j i++10::s.drop (i+1):=by
     unfold sub;have c3:s=s.take i++s[i]::s.drop (i+1):=by rw[<-lG1 W,lW1]
     conv=>lhs;rw[c3]
     rw[lM2 (by rw[lY0];omega),U]
    have g:(done++ [sub s j i])++gJ (s.drop (i+1))=gJ s:=by
     rw[<-hd,b9,pp _ _ y];simp
    have V:done.length<1000000:=by
     have:=congrArg List.length g;rw[lA0,lA0] at this;omega
    refine Sat.appS O h (sub s j i) V λa6 a7 w b3 I h=>?_
    rw[aL (by omega)];have b4:sub s (i+1) (i+1)= []:=by unfold sub;rw[lE2 (by rw[lY0];omega)]
    exact b7 (i+1) (i+1) (done++ [sub s j i]) a6 a7 b3 w (by omega) (lE1 _) (by rw[b4];simp) g I h
   ·have U:s[i]≠10:=by
     intro h0;rw[h0] at hc;cases hc
    rw[aL (by omega)];refine b7 (i+1) j done q c M w (by omega) (by omega) ?_ hd O h;rw[b8];intro E;rcases lP0.1 E with E|E
    ·exact y E
    ·exact U (lN0.1 E).symm
 have b4:sub s 0 0= []:=by unfold sub;simp
 exact c1 s.length 0 0 [] none 0 [] w (by omega) (lE1 _) (by rw[b4];simp) (by simp) SlS.nil h

theorem Aj: ∀(l:List BN) (n:Nat),(kQ n l).length=l.length
 | [],n=>by rw[kQ];rfl
 |b::r,n=>by rw[kQ,lF0,Aj r,lF0]
namespace f8
def bl1 (R:EP)(Xa:BA->OA->Nat->Nat->Int->Int->WP)(I:BA)(E:OA)(y U:Nat)(O g:Int)(w:World):Prop:=br (decide (g<O)) (br (g==0) (0<=g/\g<(y:Int)/\aA E λa3=>∃b3,w.cell? (a3.add (Int.toNat g*1))=some (hX b3)/\((I.size+b3.size:Nat):Int)<=i64.max/\0<=g/\g<(y:Int)/\aA E λa5=>stV w ((a5.add (Int.toNat g*1)).add 0) (hX (I++b3)) λc1=>Xa I E y U O (i64.wrap (g+1)) c1) (0<=g/\g<(y:Int)/\aA E λb9=>∃b6,w.cell? (b9.add (Int.toNat g*1))=some (hX b6)/\br (!(b6.toList==(hP #[]).toList)) (tk w λa6=>0<=g/\g<(y:Int)/\aA E λa10=>∃V,a6.cell? (a10.add (Int.toNat g*1))=some (hX V)/\callE P jo #[hX (hP #[32]),hY (I.size:Int)] (λe b4=>∃W,e= hQ (hX W)/\SameC a6 b4 (a10.add (Int.toNat g*1)) 1/\((W.size+V.size:Nat):Int)<=i64.max/\0<=g/\g<(y:Int)/\aA E λa14=>stV b4 ((a14.add (Int.toNat g*1)).add 0) (hX (W++V)) λb8=>Xa I E y U O (i64.wrap (g+1)) b8) a6) (Xa I E y U O (i64.wrap (g+1)) w))) (callE P fU #[hT E y U,hX (hP #[10])] (λe b7=>∃b5,e= hQ (hX b5)/\R (hQ (hX b5)) b7) w)
def l1 (R:EP)(U:BA)(y:OA)(g I:Nat)(E O:Int)(w:World):Prop:=∀X:BA->OA->Nat->Nat->Int->Int->WP,(∀U y g I E O w,bl1 R X U y g I E O w->X U y g I E O w)->X U y g I E O w
end f8
def f8 (R:EP)(O U:BA)(w:World):Prop:=callE P jZ #[hX U] (λe I=>∃E g y,e= hQ (hT E g y)/\f8.l1 R O E g y (g:Int) 0 I) w
theorem f8.sound {R x0 x1 w}(h:f8 R x0 x1 w):callE P mI #[hX x0,hX x1] R w:=
 aG [(43,.lp [1,103,207,227] (f8.bl1 R) λXa=> [(755,.dr (rpN [0,3,6,9,15,18,21,25,14,27,30,35]))])] Tryz.func36 Tryz.call36 h
namespace dE
def bl1 (R:EP)(Xa:OA->Nat->Nat->Int->Int->WP)(E:OA)(y U:Nat)(O g:Int)(w:World):Prop:=br (decide (g<O)) (0<=g/\g<(y:Int)/\aA E λa5=>∃I,w.cell? (a5.add (Int.toNat g*1))=some (hX I)/\(((hP #[62,32]).size+I.size:Nat):Int)<=i64.max/\0<=g/\g<(y:Int)/\aA E λa6=>stV w ((a6.add (Int.toNat g*1)).add 0) (hX ((hP #[62,32])++I)) λb3=>Xa E y U O (i64.wrap (g+1)) b3) (callE P fU #[hT E y U,hX (hP #[10])] (λe W=>∃V,e= hQ (hX V)/\R (hQ (hX V)) W) w)
def l1 (R:EP)(E:OA)(y O:Nat)(g I:Int)(w:World):Prop:=∀X:OA->Nat->Nat->Int->Int->WP,(∀E y O g I w,bl1 R X E y O g I w->X E y O g I w)->X E y O g I w
def k2 (R:EP)(E:OA)(g y:Nat)(w:World):Prop:=l1 R E g y (g:Int) 0 w
def k1 (R:EP)(E:OA)(g I:Nat)(O:Int)(y:Bool)(w:World):Prop:=br y (False) (k2 R E g I w)
end dE
def dE (R:EP)(U:BA)(w:World):Prop:=callE P jZ #[hX U] (λe I=>∃y g E,e= hQ (hT y g E)/\br (decide ((i64.wrap ((g:Int) - 1))>0)) (0<=(i64.wrap ((g:Int) - 1))/\(i64.wrap ((g:Int) - 1))<(g:Int)/\aA y λa3=>∃O,I.cell? (a3.add (Int.toNat (i64.wrap ((g:Int) - 1))*1))=some (hX O)/\dE.k1 R y g E (i64.wrap ((g:Int) - 1)) (O.toList==(hP #[]).toList) I) (dE.k1 R y g E (i64.wrap ((g:Int) - 1)) false I)) w
theorem dE.sound {R x0 w}(h:dE R x0 w):callE P mH #[hX x0] R w:=
 aG [(59,.mk [63,87,380] (dE.k1 R)),(91,.no),(15,.mk [63] (dE.k2 R)),(87,.lp [63,487,507] (dE.bl1 R) λXa=> [])] Tryz.func35 Tryz.call35 h

def wrB (q:Bool)(l:List BN):List BN:=if q then [.quote l] else [.list 45 0 false [l]]
def wrN (q:Bool)(g:List ND):List ND:=if q then [.mk {kind:=2} g] else [.mk {kind:=3,num:= -1,char:= [45],loose:=decide (1<g.length)} [.mk {kind:=4} g]]
def wrL (q:Bool)(ls:List (List UInt8)):List (List UInt8):=if q then ls.map λs=>62::32::s else itL [45,32] ls
theorem wF (q:Bool)(l:List BN):(aw (wrB q l)).tail=wrL q (aw l).tail:=by
 cases q with
 |true=>
  show (aw l).tail.map _++aw []=_
  rw[aw,lG0];rfl
 |false=>
  show dt 45 false 0 [l]++aw []=_
  rw[aw,lG0,dt,d8,lG0];rfl
theorem Hx (q:Bool){l:List BN}(h:okS l)(hd:dsS l)(g:l≠ []):okS (wrB q l)/\dsS (wrB q l)/\wrB q l≠ []:=by
 cases q with
 |true=>exact⟨⟨⟨g,h⟩,(λc hc=>by cases hc),trivial⟩,⟨hd,trivial⟩,lX4 _ _⟩
 |false=>exact⟨⟨⟨.inl rfl,by show 0+1<=90;omega,lX4 _ _,g,h,trivial⟩,(λc hc=>by cases hc),trivial⟩,⟨⟨hd,trivial⟩,trivial⟩,lX4 _ _⟩
theorem Hy (q:Bool)(l:List BN):dpT (wrB q l)=dpT l+1:=by
 cases q with
 |true=>show max (dpT l+1) 0=_;omega
 |false=>show max (max (dpT l) 0+1) 0=_;omega
theorem Ge (q:Bool){l:List BN}(h:okS l)(y:l≠ []):(aw (wrB q l)).length=(aw l).length:=by
 have E:=Be l h y;have g:=congrArg List.length (wF q l);rw[lR2] at E g;have I:(wrL q (aw l).tail).length=(aw l).length - 1:=by
  cases q with
  |true=>simp[wrL]
  |false=>
   have:(aw l).tail≠ []:=by
    intro h0;have:=congrArg List.length h0;rw[lR2] at this;simp at this;omega
   have e:=py (mk:= [45,32]) this;rw[lR2] at e;exact e
 rw[I] at g;have O:1<=(aw (wrB q l)).length:=by
  cases q
  ·show 1<=(_::_:List (List UInt8)).length;simp
  ·show 1<=(_::_:List (List UInt8)).length;simp
 omega
def SmT (l:List BN)(g:List ND):Prop:=g.length=l.length/\gK g/\ ∀n,1<=n->eA [] (dR n l)=dA [] g
theorem SmT.wr {l:List BN}{g:List ND}(q:Bool)(h:SmT l g)(V:okS l)(U:l≠ []):SmT (wrB q l) (wrN q g):=by
 obtain⟨a7,I,O⟩:=h;have z:([]:List UInt8).length<1073741824:=by decide
 cases q with
 |true=>
  refine⟨rfl,?_,λn y=>?_⟩
  ·show gK [_]
   rw[ig,eY];exact⟨⟨z,I⟩,eP⟩
  ·show eA [] (dR n [.quote l])=dA [] [_]
   rw[dR,dR,lj _ _ _ (qW n _),eA,dA,dA,ij,gF,fp,O n y];rfl
 |false=>
  refine⟨rfl,?_,λn y=>?_⟩
  ·show gK [_]
   rw[ig,eY,ig,eY];exact⟨⟨z,⟨z,I⟩,eP⟩,eP⟩
  ·show eA [] (dR n [.list 45 0 false [l]])=dA [] [_]
   have W:okJ [l]:=⟨U,V,trivial⟩;have a6:=F2 (c:=45) (gap:=false) (num:=0) y (lX4 l []) W
   have hz:lz false [l]=decide (1<g.length):=by
    unfold lz;rw[a7];simp;rfl
   have e:eA [] (if lz false [l] then jt 45 false 0 n [l] else (jt 45 false 0 n [l]).map IN.tgtI)= [.mk {kind:=4} (dA [] g)]:=by
    have E:eA [] (jt 45 false 0 n [l])= [.mk {kind:=4} (dA [] g)]:=by
     rw[jt,iK,lj _ _ _ (by show (4:Nat)≠13;decide),eA,gF,O n y];rfl
    split
    ·exact E
    ·rw[ru];exact E
   rw[dR,dR,lj _ _ _ (qW n _),eA,dA,dA,ij,xE,gF,fp,dA,dA,fp,a6,e,hz];rfl
def yQ (g:List Bool)(l:List BN):List BN:=g.foldl (λl q=>wrB q l) l
def yI (y:List Bool)(g:List ND):List ND:=y.foldl (λl q=>wrN q l) g
theorem vj: ∀(g:List Bool) (l:List BN) (y:List ND),okS l->dsS l->l≠ []->SmT l y->(okS (yQ g l)/\dsS (yQ g l)/\yQ g l≠ [])/\dpT (yQ g l)=dpT l+g.length/\(aw (yQ g l)).length=(aw l).length/\SmT (yQ g l) (yI g y)
 | [],l,y,h1,h2,h3,h4=>⟨⟨h1,h2,h3⟩,rfl,rfl,h4⟩
 |q::g,l,y,h1,h2,h3,h4=>by
  obtain⟨a,b,c⟩:=Hx q h1 h2 h3;obtain⟨I,r2,O,E⟩:=vj g (wrB q l) (wrN q y) a b c (h4.wr q h1 h3);refine⟨I,?_,?_,E⟩
  ·show dpT (yQ g (wrB q l))=_
   rw[r2,Hy];simp only[lF0];omega
  ·show (aw (yQ g (wrB q l))).length=_
   rw[O,Ge q h1 h3]
def LArg (σ:Out)(L:List ai)(q:Option Addr)(n:Nat)(vs:List Bool):Prop:=
 n=vs.length/\ ∀i (hi:i<vs.length),∃a,q=some a/\ ∀w,Sat σ w L->w.cell? (a.add i)=some (hV vs[i])

theorem HJ (ls:List (List UInt8))(i:Nat)(s:List UInt8):(sv ls).set i (hX (bs s))=sv (ls.set i s):=by
 simp[sv,lR6]
theorem SlS.put {q:OA}{c:Nat}{ls:List (List UInt8)}{M:List ai}(I:SlS q c ls M)(h:Sat σ w (M++L)){i:Nat}(hi:i<ls.length)(s:List UInt8){K:World->Prop}(E: ∀w g,SlS q c (ls.set i s) g->Sat σ w (g++L)->K w):aA q λa=>stV w ((a.add (Int.toNat ((i:Nat):Int)*1)).add 0) (hX (bs s)) K:=by
 rw[lC0,lA1];refine Sl.storeAt I h (by rw[j5];exact hi) trivial λw g y h=>E w g ?_ h
 show Sl 1 aq q (ls.set i s).length c (sv (ls.set i s)) g
 rw[lL4,<-HJ];exact y
structure LnS (ls:List (List UInt8)):Prop where
 ne:ls≠ []
 nl: ∀l∈ls,10 ∉ l
 last: ∃m s,ls=m++ [s]/\s≠ []
 few:ls.length<=1300
 len: ∀l∈ls,l.length<=768
theorem LnS.join {ls:List (List UInt8)}(h:LnS ls):(bl [10] ls).length<1000000:=by
 have g:=oE (n:=768) ls h.len;have y:=lC2 769 h.few;omega
theorem wQ {f:List UInt8->List UInt8}{ls:List (List UInt8)}{i:Nat}(hi:i<ls.length):((ls.take i).map f++ls.drop i).set i (f ls[i])=(ls.take (i+1)).map f++ls.drop (i+1):=by
 have g:((ls.take i).map f).length=i:=by rw[lQ0,lY0];omega
 rw[List.set_append,if_neg (by omega),g,lQ1,lG1 hi,lN4,lB1 hi,lV0];simp
theorem wR {f:List UInt8->List UInt8}(ls:List (List UInt8))(i:Nat):((ls.take i).map f++ls.drop i).length=ls.length:=by
 rw[lA0,lQ0,lY0,lJ1];omega
theorem wS {f:List UInt8->List UInt8}{ls:List (List UInt8)}{i:Nat}(hi:i<ls.length)(E:i<((ls.take i).map f++ls.drop i).length):((ls.take i).map f++ls.drop i)[i]=ls[i]:=by
 have g:((ls.take i).map f).length=i:=by rw[lQ0,lY0];omega
 have y:((ls.take i).map f++ls.drop i)[i]? =some ls[i]:=by
  rw[lI0 (show ((ls.take i).map f).length<=i by omega),g,lQ1,lG3,lL1,lH0 hi]
 exact(lJ0.1 y).2
theorem CB {ls:List (List UInt8)}(y:LnS ls)(h:Sat σ w L)(c9: ∀w,Sat σ w L->R (hQ (hX (bs (bl [10] (ls.map λs=>62::32::s))))) w):callE P mH #[hX (bs (bl [10] ls))] R w:=by
 have b7:i64.max=9223372036854775807:=rfl;have W:=qO y.ne y.nl;have d0:0<ls.length:=lZ0.2 y.ne;have b6:=y.few;refine dE.sound ?_;refine uQ y.join (by rw[W];omega) h λw q c M g h=>⟨_,_,_,rfl,?_⟩
 rw[W] at g⊢;have c2:i64.wrap (((ls.length:Nat):Int) - 1)=((ls.length - 1:Nat):Int):=by rw[gR (by omega) (by omega)]
 rw[c2];have k2:dE.k2 R q ls.length c w:=by
  intro X a6;have b9: ∀k i M w,i+k=ls.length->SlS q c ((ls.take i).map (λs=>62::32::s)++ls.drop i) M->Sat σ w (M++L)->X q ls.length c (ls.length:Nat) (i:Nat) w:=by
   intro k
   induction k with
   |zero=>
    intro i M w b4 g h;obtain rfl:i=ls.length:=b4;refine a6 _ _ _ _ _ _ (af (by rw[decide_eq_false_iff_not];omega) ?_);rw[lP2,List.drop_length,lG0] at g;have b8:((hP #[10]):ByteArray)=bs [10]:=rfl
    rw[b8];have a7:=SArg.ofSl (L:=M++L) (σ:=σ) g λx E=>lC1 _ E
    rw[lQ0] at a7;have c4:=oE (n:=770) (ls.map λs=>62::32::s) λs hs=>by
     obtain⟨x,E,rfl⟩:=lU1.1 hs;have:=y.len x E;simp only[lF0];omega
    have d3:=lC2 771 b6;rw[lQ0] at c4;refine qc a7 h (by omega) (by omega) (by simp) λw h=>⟨_,rfl,c9 w (h.less M)⟩
   |succ k c5=>
    intro i M w b4 g h;have I:i<ls.length:=by omega
    have V:=wR (f:=λs=>62::32::s) ls i
    refine a6 _ _ _ _ _ _ (ag (by rw[decide_eq_true_eq];omega) ⟨by omega,by omega,?_⟩);obtain⟨a,rfl,O⟩:=g.get (i:=i) (by rw[V];exact I);refine aa ?_;rw[lC0,lA1];have b3:=O h λx E=>lC1 _ E
    rw[wS I] at b3;have d1:=y.len _ (lO1 I);have U:(hP #[62,32])=bs [62,32]:=rfl;rw[U];refine⟨_,b3,?_⟩;rw[bG];refine⟨by rw[aF,aF,b7];simp only[lF0,lM1];omega,by omega,by omega,?_⟩;have d2:i=Int.toNat ((i:Nat):Int)*1:=by rw[lC0,lA1]
    have:=SlS.put g h (i:=i) (by rw[V];exact I) ([62,32]++ls[i]) (K:=λw=>X (some a) ls.length c (ls.length:Nat) (i64.wrap (((i:Nat):Int)+1)) w) λw c8 c1 h=>by
     rw[aL (by omega)];refine c5 (i+1) c8 w (by omega) ?_ h;rw[<-wQ I];exact c1
    rw[lC0,lA1] at this;exact this
  exact b9 ls.length 0 M w (by omega) (by simpa using g) h
 by_cases c3:ls.length - 1=0
 ·refine af (by rw[c3];rfl) ?_;exact af rfl k2
 ·refine ag (by rw[decide_eq_true_eq];omega) ⟨by omega,by omega,?_⟩;obtain⟨a,rfl,O⟩:=g.get (i:=ls.length - 1) (by omega);refine aa ?_;rw[lC0,lA1];refine⟨_,O h λx E=>lC1 _ E,?_⟩;obtain⟨m,s,e,hs⟩:=y.last;have b5:ls[ls.length - 1]=s:=by subst e;simp
  rw[b5];have U:(hP #[]).toList= []:=cn [];have:(((bs s).toList==(hP #[]).toList):Bool)=false:=by rw[cn,U];simpa using hs
  rw[this];exact af rfl k2
def itF (mk:List UInt8)(i:Nat)(s:List UInt8):List UInt8:=if i=0 then mk++s else if s= [] then [] else hN mk.length 32++s
def itG (mk:List UInt8)(ls:List (List UInt8))(i:Nat):List (List UInt8):=(itL mk ls).take i++ls.drop i
theorem Df {mk:List UInt8}{ls:List (List UInt8)}{i:Nat}(hi:i<ls.length):(itL mk ls)[i]? =some (itF mk i ls[i]):=by
 cases ls with
 |nil=>simp at hi
 |cons x r=>
  cases i with
  |zero=>simp[itL,itF]
  |succ i=>
   simp only[lF0] at hi;simp[itL,itF,CX.pre,lH0 (show i<r.length by omega)]
theorem Db {ls:List (List UInt8)}{mk:List UInt8}(f2:mk.length<=10)(I:LnS ls)(h:Sat σ w L)(e7: ∀w,Sat σ w L->R (hQ (hX (bs (bl [10] (itL mk ls))))) w):callE P mI #[hX (bs mk),hX (bs (bl [10] ls))] R w:=by
 have b6:i64.max=9223372036854775807:=rfl;have c1:=qO I.ne I.nl;have e9:0<ls.length:=lZ0.2 I.ne;have c9:=I.few;have b7:=py (mk:=mk) I.ne;refine f8.sound ?_;refine uQ I.join (by rw[c1];omega) h λw q c M y h=>⟨_,_,_,rfl,?_⟩
 rw[c1] at y⊢;intro X c4;have d1: ∀i,i<=ls.length->(itG mk ls i).length=ls.length:=by
  intro i hi;unfold itG;rw[lA0,lY0,lJ1];omega
 have c2: ∀i (hi:i<ls.length) (e6:i<(itG mk ls i).length),(itG mk ls i)[i]=ls[i]:=by
  intro i hi e6;have b3:((itL mk ls).take i).length=i:=by rw[lY0];omega
  have b4:(itG mk ls i)[i]? =some ls[i]:=by
   unfold itG;rw[lI0 (show ((itL mk ls).take i).length<=i by omega),b3,lQ1,lG3,lL1,lH0 hi]
  exact(lJ0.1 b4).2
 have b9: ∀i (hi:i<ls.length),(itG mk ls i).set i (itF mk i ls[i])=itG mk ls (i+1):=by
  intro i hi;unfold itG;have b3:((itL mk ls).take i).length=i:=by rw[lY0];omega
  have g:=Df (mk:=mk) hi;obtain⟨b4,e8⟩:=lJ0.1 g;rw[List.set_append,if_neg (by omega),b3,lQ1,lG1 hi,lN4,lB1 b4,e8];simp
 have d2: ∀k i M w,i+k=ls.length->SlS q c (itG mk ls i) M->Sat σ w (M++L)->X (bs mk) q ls.length c (ls.length:Nat) (i:Nat) w:=by
  intro k
  induction k with
  |zero=>
   intro i M w c8 y h;obtain rfl:i=ls.length:=c8;refine c4 _ _ _ _ _ _ _ (af (by rw[decide_eq_false_iff_not];omega) ?_);have e2:itG mk ls ls.length=itL mk ls:=by
    unfold itG;rw[List.drop_length,lG0,lB2 (by omega)]
   rw[e2] at y;have d0:((hP #[10]):ByteArray)=bs [10]:=rfl
   rw[d0];have c5:=SArg.ofSl (L:=M++L) (σ:=σ) y λx a7=>lC1 _ a7
   rw[b7] at c5;have e3:=oE (n:=778) (itL mk ls) λs hs=>by
    obtain⟨i,hi,rfl⟩:=lB5.1 hs;have b8:i<ls.length:=by omega
    have g:=Df (mk:=mk) b8;rw[lH0 hi] at g;rw[Option.some.inj g];have:=I.len _ (lO1 b8);unfold itF;split
    ·rw[lA0];omega
    ·split
     ·simp
     ·rw[lA0,lG2];omega
   have f0:=lC2 779 c9;rw[b7] at e3;refine qc c5 h (by omega) (by omega) (by simp) λw h=>⟨_,rfl,e7 w (h.less M)⟩
  |succ k e5=>
   intro i M w c8 y h;have E:i<ls.length:=by omega
   have a6:=d1 i (by omega);refine c4 _ _ _ _ _ _ _ (ag (by rw[decide_eq_true_eq];omega) ?_);obtain⟨a,rfl,e4⟩:=y.get (i:=i) (by rw[a6];exact E);have g: ∀w,Sat σ w (M++L)->w.cell? (a.add i)=some (hX (bs ls[i])):=by
    intro w h;have g:=e4 h λx a7=>lC1 _ a7
    rw[c2 i E] at g;exact g
   have f1:=I.len _ (lO1 E);have next: ∀O w,SlS (some a) c (itG mk ls (i+1)) O->Sat σ w (O++L)->X (bs mk) (some a) ls.length c (ls.length:Nat) (i64.wrap (((i:Nat):Int)+1)) w:=by
    intro O w W h;rw[aL (by omega)];exact e5 (i+1) O w (by omega) W h
   have c3: ∀w (z:List UInt8),z=itF mk i ls[i]->Sat σ w (M++L)->aA (some a) λa=>stV w ((a.add (Int.toNat ((i:Nat):Int)*1)).add 0) (hX (bs z)) λw=>X (bs mk) (some a) ls.length c (ls.length:Nat) (i64.wrap (((i:Nat):Int)+1)) w:=by
    intro w z hz h;refine SlS.put y h (i:=i) (by rw[a6];exact E) z λw O W h=>?_
    rw[hz,b9 i E] at W;exact next O w W h
   refine bh (λh0=>?_) λh0=>?_
   ·have V:i=0:=by
     have:((i:Nat):Int)=0:=eq_of_beq h0
     omega
    refine⟨by omega,by omega,aa ?_⟩;have U:=g w h;refine⟨bs ls[i],by rw[lC0,lA1];exact U,?_⟩;rw[bG];refine⟨by rw[aF,aF,b6];omega,by omega,by omega,?_⟩;exact c3 w _ (by unfold itF;rw[if_pos V]) h
   ·have V:i≠0:=by
     intro e1;rw[e1] at h0;cases h0
    refine⟨by omega,by omega,aa ?_⟩;have U:=g w h;refine⟨bs ls[i],by rw[lC0,lA1];exact U,?_⟩;have b5:(hP #[]).toList= []:=cn [];rw[cn,b5]
    by_cases hz:ls[i]= []
    ·refine af (by rw[hz];rfl) (next M w ?_ h);rw[<-b9 i E];have e:itF mk i ls[i]=(itG mk ls i)[i]'(by rw[a6];exact E):=by
      rw[c2 i E];unfold itF;rw[if_neg V,if_pos hz,hz]
     rw[e,List.set_getElem_self];exact y
    ·refine ag (by simp[hz]) (h.tk λw h=>⟨by omega,by omega,aa ?_⟩);have U:=g w h;refine⟨bs ls[i],by rw[lC0,lA1];exact U,?_⟩;have d3:((hP #[32]):ByteArray)=bs [32]:=rfl
     rw[d3,aF];refine sE (s:= [32]) (n:=mk.length) (by omega) (by simp) ⟨_,rfl,λ_ _=>rfl,?_⟩;rw[we,bG];refine⟨by rw[aF,aF,b6];simp;omega,by omega,by omega,?_⟩;exact c3 w _ (by unfold itF;rw[if_neg V,if_neg hz]) h
 have b5:itG mk ls 0=ls:=by unfold itG;simp
 exact d2 ls.length 0 M w (by omega) (by rw[b5];exact y) h

theorem GQ {l:List BN}(E:okS l)(hd:dsS l)(y:l≠ [])(O:(aw l).length<=1300)(I:dpT l<=12):LnS (aw l).tail:=by
 have g:=ye.2.1 l E hd y;exact⟨g.ne,λs hs h=>((g.ch s hs).1 10 h).1 rfl,g.last,by rw[lR2];omega,λs hs=>by have:=(g.ch s hs).2;omega⟩
theorem AQ {q:OA}{n c:Nat}{g:List Bool}{l:List BN}{I:List ND}{E:OA}{y:Nat}{us:List Value}{RM KM:List ai}(b9:LArg σ L q n g)(e9:n<=8)(c8:okS l)(c3:dsS l)(c5:l≠ [])(e3:(aw l).length<=1300)(e5:dpT l<=4)(b6:SmT l I)(e6:l.length<=4)(U:NDs I us KM)(V:Sl 10 ae E I.length y us RM)(h:Sat σ w (RM++(KM++L)))(e1: ∀w (E:OA) (y:Nat) (us:List Value) (RM KM:List ai),(yI g I).length<=4->NDs (yI g I) us KM->Sl 10 ae E (yI g I).length y us RM->Sat σ w (RM++(KM++L))->R (hQ (.tuple #[hX (bs (bl [10] (aw (yQ g l)).tail)),hT E (yI g I).length y])) w):
 callE P lU #[hX (bs (bl [10] (aw l).tail)),hT E I.length y,hT q n c] R w:=by
 have c4:=b9.1;refine fk.sound ?_;intro X b8;have c2: ∀k i (E:OA) (y:Nat) (us:List Value) (RM KM:List ai) (w:World),i+k=n->(yI (g.take i) I).length<=4->NDs (yI (g.take i) I) us KM->Sl 10 ae E (yI (g.take i) I).length y us RM->Sat σ w (RM++(KM++L))->X (bs (bl [10] (aw (yQ (g.take i) l)).tail)) E (yI (g.take i) I).length y q n c (n:Nat) (i:Nat) w:=by
  intro k
  induction k with
  |zero=>
   intro i E y us RM KM w c1 a7 U V h;obtain rfl:i=n:=c1;refine b8 _ _ _ _ _ _ _ _ _ _ (af (by rw[decide_eq_false_iff_not];omega) ?_);rw[c4,lP2] at U V a7⊢;exact e1 w E y us RM KM a7 U V h
  |succ k O=>
   intro i E y us RM KM w c1 a7 U V h;have b5:i<g.length:=by omega
   obtain⟨⟨a1,a2,a3⟩,b1,b2,W⟩:=vj (g.take i) l I c8 c3 c5 b6;have e4:(g.take i).length=i:=by rw[lY0];omega
   have b4:=GQ a1 a2 a3 (by omega) (by omega);refine b8 _ _ _ _ _ _ _ _ _ _ (ag (by rw[decide_eq_true_eq];omega) ⟨by omega,by omega,?_⟩);obtain⟨a,rfl,d3⟩:=b9.2 i b5;refine aa ⟨g[i],by rw[lC0,lA1];exact d3 w (h.less (RM++KM)),?_⟩;have d2:yQ (g.take (i+1)) l=wrB g[i] (yQ (g.take i) l):=by
    rw[lB1 b5];unfold yQ;rw[lJ2];rfl
   have d0:yI (g.take (i+1)) I=wrN g[i] (yI (g.take i) I):=by
    rw[lB1 b5];unfold yI;rw[lJ2];rfl
   have O:=O (i+1);rw[d2,d0,wF] at O;revert O;generalize e7:yI (g.take i) I=kz at U V a7 W⊢;generalize yQ (g.take i) l=lz at a1 a2 a3 b4⊢;intro O;generalize g[i]=sb at O⊢;have b7: ∀(a6:NH),NodeDt (.mk a6 kz) (a6.nd none 0 E kz.length y) (RM++KM):=λa6=>⟨a6,kz,none,0,E,kz.length,y,us,RM,KM,rfl,rfl,rfl,by omega,U,V⟩
   cases sb with
   |true=>
    refine ag rfl ?_;refine CB b4 h λw h=>⟨_,rfl,?_⟩
    refine Sat.buildN h (({kind:=2}:NH).nd none 0 E kz.length y) λb2 w h=>?_
    rw[aL (by omega)];exact O (kE b2) 1 _ _ _ w (by omega) (by show 1<=4;omega) ((b7 {kind:=2}).one) slN h.re
   |false=>
    refine af rfl ?_;have e2:(hP #[45,32])=bs [45,32]:=rfl;rw[e2];refine Db (mk:= [45,32]) (by simp) b4 h λw h=>⟨_,rfl,?_⟩
    refine Sat.buildN h (({kind:=4}:NH).nd none 0 E kz.length y) λb2 w h=>?_
    have d1:NodeDt (.mk {kind:=3,num:= -1,char:= [45],loose:=decide (1<kz.length)} [.mk {kind:=4} kz]) (({kind:=3,num:= -1,char:= [45],loose:=decide (1<kz.length)}:NH).nd none 0 (kE b2) 1 1) ([ndC b2 (({kind:=4}:NH).nd none 0 E kz.length y)]++(RM++KM)):=
     ⟨_,_,none,0,_,1,1,_,_,_,rfl,rfl,rfl,by decide,(b7 {kind:=4}).one,slN⟩
    have c9:decide (((kz.length:Nat):Int)>1)=decide (1<kz.length):=by rw[decide_eq_decide];omega
    rw[c9];refine Sat.buildN h (({kind:=3,num:= -1,char:= [45],loose:=decide (1<kz.length)}:NH).nd none 0 (kE b2) 1 1) λW w h=>?_
    have h:Sat σ w (ndC W (({kind:=3,num:= -1,char:= [45],loose:=decide (1<kz.length)}:NH).nd none 0 (kE b2) 1 1)::ndC b2 (({kind:=4}:NH).nd none 0 E kz.length y)::(RM++(KM++L))):=h
    have h:Sat σ w ([ndC W (({kind:=3,num:= -1,char:= [45],loose:=decide (1<kz.length)}:NH).nd none 0 (kE b2) 1 1)]++(([ndC b2 (({kind:=4}:NH).nd none 0 E kz.length y)]++(RM++KM))++L)):=h.re
    rw[aL (by omega)];exact O (kE W) 1 _ _ _ w (by omega) (by show 1<=4;omega) d1.one slN h
 have e8:=b6.1;exact c2 n 0 E y us RM KM w (by omega) (by show I.length<=4;omega) U V h
theorem yf {ec:ai}(e5:BP ec){q c5:OA}{n c c8 e3:Nat}{vs:List UInt8}{E:List Bool}(e0:ec∈L)(e9:BArg σ L q n vs)(c4:LArg σ L c5 c8 E)(h:Sat σ w L)(b8: ∀w,Sat σ w L->R (hQ (hV true)) w):callE P mY #[hT q n c,hT c5 c8 e3] R w:=by
 refine dN.sound ?_;refine bh (λ_=>b8 w h) λ_=>?_
 refine H8 ⟨_,rfl,?_⟩;refine bh (λ_=>b8 w h) λO=>?_
 simp only[lH2,Bool.not_eq_false',decide_eq_true_eq,decide_eq_false_iff_not] at O;refine Fl e9 O.1 h λw l y g us RM KM b4 a6 b7 h=>⟨_,_,_,_,_,_,_,_,_,_,_,_,_,_,_,rfl,?_⟩
 obtain⟨I,c3,c9,f1,g1⟩:=CV b4;refine Sat.bx h λW w h=>?_
 have h:Sat σ w (ndC W {}::(RM++(KM++L))):=h
 refine h.st10 0 {} (({kind:=1}:NH).nd none 0 y l.length g) λw h=>?_
 have h:Sat σ w (ndC W (({kind:=1}:NH).nd none 0 y l.length g)::(RM++(KM++L))):=h
 refine⟨y,l.length,g,Sat.ld h (.head _) (i:=7) rfl,?_⟩;have V:=Aj l 1;have b9:SmT l (kQ 1 l):=⟨V,Cu.2.1 l I 1,λn O=>ED.2.1 l I n 1 [] O⟩;have d3:dpT l<=4:=by have:=(pF.2.1 l I 3 b4.sm).2;omega
 have f7:=c4.1;have h:Sat σ w (RM++(KM++L)):=h.less [ndC W (({kind:=1}:NH).nd none 0 y l.length g)]
 rw[<-V];refine AQ c4 (by omega) I c3 c9 f1 d3 b9 b4.len a6 (by rw[V];exact b7) h λw y g us RM KM U a6 b7 h=>⟨_,_,_,_,rfl,?_⟩
 obtain⟨⟨a1,a2,a3⟩,b1,b2,d2⟩:=vj E l (kQ 1 l) I c3 c9 b9;have f2:=(Bw (op:=FQ) rfl rfl rfl rfl e5 a1 a2 a3 (by omega) (by omega)).2;refine zf h λg0 e8=>⟨_,_,_,_,_,_,_,_,_,_,rfl,?_⟩
 refine A7 f2 (L:=RM++(KM++L)) (lB0 _ (lB0 _ e0)) e8 λf3 u M s e xs e6 f5 f6=>y8 ?_
 subst f5;refine Ih e6 (by rw[da];exact⟨λf4=>by simp at f4,Bu.2.1 _ a1 1⟩) σ _ _ f3 f6 λd0 g2 b6 c2 a7=>vH ?_
 have f0:NodeDt (.mk {kind:=1} (yI E (kQ 1 l))) (({kind:=1}:NH).nd none 0 y (yI E (kQ 1 l)).length g) (RM++KM):=⟨_,_,none,0,y,_,g,us,RM,KM,rfl,rfl,rfl,by omega,a6,b7⟩
 have a7:Sat σ d0 ((RM++KM)++(b6++(M++L))):=a7.re;refine Gg f0 (by rw[eY];exact⟨by decide,d2.2.1⟩) σ _ _ d0 a7 λe4 g3 d1 e1 U=>vH ?_
 have e:gF (.mk {kind:=1,s:=s,e:=e} (dR 1 (yQ E l)))=fp (.mk {kind:=1} (yI E (kQ 1 l))):=by
  rw[gF,fp,d2.2.2 1 (by omega)];rfl
 rw[e] at c2;have U:Sat σ e4 (b6++(d1++((RM++KM)++(M++L)))):=U.re;refine GB c2 e1 U λe7 e2=>⟨_,rfl,b8 e7 ?_⟩
 exact e2.less (b6++(d1++((RM++KM)++M)))
end Go.Proofs.YtendaipfdnhnaaaGreatDoor

namespace Go.Proofs.YtendaipfdnhnaaaGreatDoor
open Go.Proofs Go.ChangeShapes Go.WideShapes
theorem pA {g y:World}(h:Sat (xr g) y (fI g)){b:Nat}(hb:b<g.heap.size):y.heap[b]? =g.heap[b]? :=by
 have E:(b,g.heap[b])∈fI g:=lU1.2 ⟨(g.heap[b],b),lA3.2 (by simp[hb]),rfl⟩;rw[h.at_ _ E,lS2 hb]
theorem sZ {g y:World}(h:Sat (xr g) y (fI g)){p:MemPlace}(E:p.block<g.heap.size):g.sameAt y p:=by
 cases p with
 |cell b o=>exact World.cell?_of_block (w:=g) (pA h E)
 |map b=>exact pA h E
theorem tX {g y:World}(h:Sat (xr g) y (fI g)){a:Addr}{v:Value}(hc:g.cell? a=some v):y.cell? a=some v:=by
 have hb:a.block<g.heap.size:=by
  rcases lP4 a.block g.heap.size with E|I
  ·exact E
  ·have:g.heap[a.block]? =none:=lQ4 I;unfold World.cell? at hc;rw[this] at hc;cases hc
 rw[<-hc];unfold World.cell?;rw[pA h hb]
theorem u8_of {n:Int}(h:(Lit.int .u8 n).wf=true): ∃m:Nat,m<256/\n=(m:Int):=by
 have g:(decide (IntKind.u8.min<=n) && decide (n<=IntKind.u8.max))=true:=h;simp only[lN1,decide_eq_true_eq] at g;have a:IntKind.u8.min=0:=rfl;have b:IntKind.u8.max=255:=rfl;rw[a,b] at g;exact⟨n.toNat,by omega,by omega⟩
end Go.Proofs.YtendaipfdnhnaaaGreatDoor


namespace Go.Proofs.YtendaipfdnhnaaaGreatDoor
open Go.Proofs Go.ChangeShapes Go.WideShapes Go.Deep
theorem CL {P:Program}{H:Type}{enc:TypeId × Value->H}{y:World}{r:Reach}{b0:Nat}{t e:TypeId}{v:Value}{d:DataW H}{b3:List MemPlace}(ht:P.underlying t=some (.slice e))(a7:P.underlying e=some .bool)(hc:P.cellsOf e=1)(I:Value.okWide P y r b0 t v)(h:DataW.Trod enc P y 0 (λ_=>true) true t v d b3): ∃q n c vs,v= hT q n c/\LArg (xr y) (fI y) q n vs:=by
 obtain⟨a0,len,O,rfl⟩:=okWide_slice ht I;obtain⟨c2,b6⟩:=h;rcases open_slice1 ht hc b6 with ⟨g,b5⟩|⟨a,b9,c1,m,n,V,D,c5,g,_,c3,c4,hz,b5,E⟩
 ·simp[Value.cells] at g;obtain⟨rfl,rfl,rfl⟩:=g;exact⟨none,0,0,[],rfl,⟨rfl,λi hi=>by simp at hi⟩⟩
 ·simp[Value.cells] at g;obtain⟨rfl,rfl,rfl⟩:=g;simp only[if_true] at hz;refine⟨some a,len,O,(List.range len).map λi=>match V i with| .bool k=>k|_=>false,rfl,⟨by simp,λi hi=>?_⟩⟩;simp only[lQ0,List.length_range] at hi;refine⟨a,rfl,λw U=>?_⟩;obtain⟨b4,b8⟩:=E i (by omega);obtain⟨k,b7,_⟩:=DataW.trod_bool a7 b8;have a6:V i= hV k:=(List.cons.inj b7).1;rw[tX U b4,List.getElem_map,List.getElem_range,a6]
end Go.Proofs.YtendaipfdnhnaaaGreatDoor


namespace Go.Proofs.YtendaipfdnhnaaaGreatDoor
open Go.Proofs Go.ChangeShapes Go.WideShapes Go.Deep
theorem CM {P:Program}{H:Type}{enc:TypeId × Value->H}{y:World}{r:Reach}{b0:Nat}{t e:TypeId}{v:Value}{d:DataW H}{b3:List MemPlace}(ht:P.underlying t=some (.slice e))(a7:P.underlying e=some (.int .u8))(hc:P.cellsOf e=1)(I:Value.okWide P y r b0 t v)(h:DataW.Trod enc P y 0 (λ_=>true) true t v d b3): ∃q n c vs,v= hT q n c/\BArg (xr y) (fI y) q n vs:=by
 obtain⟨a0,len,O,rfl⟩:=okWide_slice ht I;obtain⟨c3,b6⟩:=h;rcases open_slice1 ht hc b6 with ⟨g,b5⟩|⟨a,c1,c2,m,n,V,D,c9,g,_,c4,c8,hz,b5,E⟩
 ·simp[Value.cells] at g;obtain⟨rfl,rfl,rfl⟩:=g;exact⟨none,0,0,[],rfl,⟨rfl,λi hi=>by simp at hi⟩⟩
 ·simp[Value.cells] at g;obtain⟨rfl,rfl,rfl⟩:=g;simp only[if_true] at hz;refine⟨some a,len,O,(List.range len).map λi=>match V i with| .int _ n=>UInt8.ofNat n.toNat|_=>0,rfl,⟨by simp,λi hi=>?_⟩⟩;simp only[lQ0,List.length_range] at hi;refine⟨a,rfl,λw U=>?_⟩;obtain⟨b4,b8⟩:=E i (by omega);obtain⟨k,b7,_,b9⟩:=DataW.trod_int a7 b8;have a6:V i= .int .u8 k:=(List.cons.inj b7).1;obtain⟨j,c5,rfl⟩:=u8_of b9;rw[tX U b4,List.getElem_map,List.getElem_range,a6];simp;omega
end Go.Proofs.YtendaipfdnhnaaaGreatDoor


namespace Go.Proofs.YtendaipfdnhnaaaGreatDoor
open Go.Proofs Go.ChangeShapes Go.WideShapes Go.RowKit
def EI:DataW Unit->Bool
 | .agg [.lit (.string a),.lit (.string b)]=>decide (b.length<=10) && !b.isEmpty
 |_=>false
theorem EH {r:DataW Unit}(h:EI r=true): ∃a b,r= .agg [.lit (.string a),.lit (.string b)]/\b.length<=10/\b≠ []:=by
 unfold EI at h;split at h
 ·rename_i a b;refine⟨a,b,rfl,?_,?_⟩
  ·simp at h;exact h.1
  ·simp at h;exact h.2
 ·exact absurd h (by simp)
theorem ym {P:Program}{TA TB TS:TypeId}{N:String}{E:World}{I:List (DataW Unit)}(c8:P.underlying TA=some (.array 12 TB))(d1:P.underlying TB=some (.array 2 TS))(V:P.underlying TS=some .string)(c4:P.cellsOf TB=2)(c2:P.cellsOf TS=1)(b3:P.globalNamed N=some 1)(d3:(P.globals[1]?).map (·.type)=some TA){l:List (String × DataW Unit)}{d:DataW Unit}(e2:l.filter (λx=>x.1==N)= [(N,d)])(c1:d= .agg I)(b9:I.all EI=true)(c5:d.handleName?.isNone=true)(h:laidMetH P l E): ∃c,BP c/\c∈fI E:=by
 have h:=h.filter (λx=>x.1==N);rw[e2,MakeChecks.laidMetH_plain _ _ _ (by simp[c5])] at h;obtain⟨f5,⟨g,t,cs,e9,p,q,e6,ht,hv,hd,_,_⟩,_,_⟩:=h;obtain rfl:=Option.some.inj (b3.symm.trans e6);obtain rfl:=Option.some.inj (d3.symm.trans ht);obtain⟨xs,m,_,ex,f0,f2,d0⟩:=DataW.trod_array c8 hd;have b4:d= .agg (xs.map (·.1)):=(Prod.mk.inj ex).1;rw[c1] at b4;have em:=DataW.agg.inj b4;simp only[World.var?,b3,Option.bind_some] at hv;split at hv
 case h_2=>cases hv
 rename_i c ty e7 hb;cases hv
 have U:1<E.heap.size:=(lB4.1 hb).1;refine⟨(1,E.heap[1]),⟨cs,ty,e7,?_,?_⟩,lU1.2 ⟨(E.heap[1],1),lA3.2 (by simp[U]),rfl⟩⟩
 ·rw[lS2 U] at hb;exact congrArg (Prod.mk 1) (Option.some.inj hb)
 intro i hi;have a7:=d0 i hi;rw[c4,lH0 (by omega)] at a7;obtain⟨a6,f4,_,e5,_,f3,O⟩:=DataW.trod_array d1 a7;have h0:=O 0 (by decide);have b5:=O 1 (by decide);rw[c2,lH0 (by omega)] at h0 b5;obtain⟨s0,e8,f6,_⟩:=DataW.trod_string V h0;obtain⟨y,e4,e3,_⟩:=DataW.trod_string V b5;have hr:EI xs[i].1=true:=by
  refine(lF2.1 b9) _ ?_;rw[em];exact lI5 (lO1 _)
 obtain⟨a,b8,b6,c9,d2⟩:=EH hr;rw[e5] at b6;have c3:=DataW.agg.inj b6;have b7:a6[1].1= .lit (.string b8):=by
  have:=congrArg (λl:List (DataW Unit)=>l[1]?) c3
  simp only[lZ2,lV5,lI2,lH0 (show 1<a6.length by omega),lK3,lI1] at this;exact this
 rw[e3] at b7;have t1:y.data.toList=b8:=by simpa using b7
 refine⟨s0.data.toList,y.data.toList,?_,?_,by rw[t1];exact c9,by rw[t1];exact d2⟩
 ·have:(((((cs.toList.drop (i*2)).take 2).drop (0*1)).take 1)[0]?)=some (hX s0):=by rw[e8];rfl
  rw[show bs s0.data.toList=s0 from rfl,<-lT2];have e:i*2=2*i:=lT6 _ _;rw[e] at this
  simpa using this
 ·have:(((((cs.toList.drop (i*2)).take 2).drop (1*1)).take 1)[0]?)=some (hX y):=by rw[e4];rfl
  rw[show bs y.data.toList=y from rfl,<-lT2];have e:i*2=2*i:=lT6 _ _;rw[e] at this
  simpa using this
end Go.Proofs.YtendaipfdnhnaaaGreatDoor

