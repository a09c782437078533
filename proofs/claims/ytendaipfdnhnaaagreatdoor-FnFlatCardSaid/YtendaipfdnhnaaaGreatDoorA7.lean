/- Part 7 of the proof of the law FnFlat: for every input the law returns true, the inputs read as they did, and memory that was there is as it was; under the conditions of the given row alone. -/
import Derived.SliceStrings
import Derived.WideKeyArgs
import Derived.Below
import Derived.Deep.Slices
import Derived.ChangeArms
import Derived.OpenShut
import Derived.ChangeMaps5
import Derived.MakeChecks
import Derived.LaidSub
import Derived.FnData
import Derived.Test.YtendaipfdnhnaaaGreatDoorA6
set_option linter.all false
open Go.IntKind(i64)
open ByteArray renaming mk→hP
open List renaming replicate→hN
namespace Go.Proofs.YtendaipfdnhnaaaGreatDoor
open Go.Proofs Go.IntWalk Go.RowKit
set_option maxRecDepth 20000
variable {σ:Out} {w:World} {L L':List ai} {R:Ending->World->Prop} {G:List UInt8->List Inl} {op:Opt}

abbrev kf (q:OA)(n c:Nat):N10:=({kind:=4}:NH).nd none 0 q n c
abbrev jy (num:Int)(ch:UInt8)(lo:Bool)(q:OA)(n c:Nat):N10:=({kind:=3,num:=num,char:= [ch],loose:=lo}:NH).nd none 0 q n c
abbrev ndC (b:Nat)(v:N10):ai:=(b,cel v.C.toList ae)
def uj (ch:UInt8)(gap:Bool)(num:Nat)(its:List (List BN)):List (List UInt8):=dB ch gap num its++(if gap && !its.isEmpty then [[]] else [])
theorem Eh (ch:UInt8)(gap:Bool)(num:Nat)(its:List (List BN)):(uj ch gap num its).length=(dB ch gap num its).length+(gap && !its.isEmpty).toNat:=by
 unfold uj
 rw[lA0]
 split
 ·rename_i h;rw[h];rfl
 ·rename_i h
  have h:(gap && !its.isEmpty)=false:=by simpa using h
  rw[h];rfl
theorem Ay (ch:UInt8)(gap:Bool)(num:Nat)(its:List (List BN))(it:List BN){x:List UInt8}{r:List (List UInt8)}(h:(aE it).tail=x::r):
 (uj ch gap num its++ [mkI ch (num+its.length)++x])++r.map (λs=>if s= [] then [] else hN (mkI ch (num+its.length)).length 32++s)=dB ch gap num (its++ [it]):=by
 rw[yP,h]
 unfold uj itL
 simp only[lD0,List.headD_cons,List.tail_cons,lR2]
 rfl
structure MkP (odd:Bool) (ch:UInt8) (num:Nat) (numI:Int):Prop where
 ch_:if odd then ch=43\/ch=41 else ch=45\/ch=46
 num_:numI=if ch=46\/ch=41 then ((num:Nat):Int) else -1
 le:num<=30
theorem MkP.ch4 {odd:Bool}{ch:UInt8}{num:Nat}{numI:Int}(h:MkP odd ch num numI):ch=45\/ch=43\/ch=46\/ch=41:=by
 have:=h.ch_
 cases odd
 ·rcases this with h|h
  ·exact .inl h
  ·exact .inr (.inr (.inl h))
 ·rcases this with h|h
  ·exact .inr (.inl h)
  ·exact .inr (.inr (.inr h))
theorem CE {d m:Nat}{odd loose:Bool}{ch:UInt8}{num:Nat}{numI:Int}{b b1 g I:Nat}{q:OA}{n c:Nat}{b4:BS}{X:OA->Int->Bool->Nat->Nat->Bool->OA->Nat->Nat->Int->Int->WP}(hd:d<=3)(q8:m<=5)(d0:MkP odd ch num numI){its:List (List BN)}{it:List BN}(o2:its.length<=3)(o3:(dB ch loose num its).length<=2000)(m2: ∀x∈its,(aE x).tail≠ [])(m5:abS it)(i8:it≠ [])(r3:it.length<=2)(i0:smS d it){b8:OA}{b9:Nat}{b5:List ai}{a6:OA}{W:Nat}{us:List Value}{RM KM:List ai}(e5:SlS b8 b9 (dB ch loose num its) b5)(k0:NDs (ut loose its) us KM)(n1:Sl 10 ae a6 its.length W us RM){b7:OA}{b6:Nat}{f4:List Value}{U O:List ai}{e3:OA}{c8:Nat}{a7 E:List ai}(f1:SlS e3 c8 (aE it).tail a7)(i3:NDs (lM 1 it) f4 O)(i2:Sl 10 ae b7 it.length b6 f4 U)(h:Sat σ w (bC b q n c b4::ndC g (jy numI ch (lz loose its||decide (2<=it.length)) a6 its.length W)::ndC I (kf b7 it.length b6)::(b5++(RM++(KM++(a7++(U++(O++(E++L)))))))))(next: ∀(w:World) (b8:OA) (b9:Nat) (b5:List ai) (a6:OA) (W:Nat) (us:List Value) (RM KM:List ai),SlS b8 b9 (dB ch loose num (its++ [it])) b5->NDs (ut loose (its++ [it])) us KM->Sl 10 ae a6 (its++ [it]).length W us RM->
  Sat σ w (bC b q n c b4::ndC g (jy numI ch (lz loose (its++ [it])) a6 (its++ [it]).length W)::(b5++(RM++(KM++L))))->X (kE b) (d:Nat) odd b1 g loose b8 (dB ch loose num (its++ [it])).length b9 ((m:Nat):Int) (((its++ [it]).length:Nat):Int) w){g7:Int}(j0:g7=((d:Nat):Int)):
 aB.k6 R X (kE b) g7 odd b1 g loose b8 (dB ch loose num its).length b9 ((its.length:Nat):Int) I e3 (aE it).tail.length c8 ((m:Nat):Int) ((its.length:Nat):Int) w:=by
 subst j0
 have f0:i64.max=9223372036854775807:=rfl
 obtain⟨g3,f2,i4⟩:=sQ hd m5 i0 i8 (by omega)
 obtain⟨q0,p5,p3⟩:=Fj (num:=num+its.length) d0.ch4 (by have:=d0.le;omega)
 have i1:=Eh ch loose num its
 have o4:(loose && !its.isEmpty).toNat<=1:=by cases (loose && !its.isEmpty)<;>decide
 have k9: ∀(w:World) (b8:OA) (b9:Nat) (b5 E:List ai),SlS b8 b9 (uj ch loose num its) b5->Sat σ w (bC b q n c b4::ndC g (jy numI ch (lz loose (its++ [it])) a6 its.length W)::ndC I (kf b7 it.length b6)::(b5++(RM++(KM++(a7++(U++(O++(E++L))))))))->
  aB.k9 R X (kE b) (d:Nat) odd b1 g loose b8 (uj ch loose num its).length b9 I e3 (aE it).tail.length c8 (bs (mkI ch (num+its.length))) ((m:Nat):Int) ((its.length:Nat):Int) w:=by
  intro w b8 b9 b5 E e5 h
  have m6:i64.wrap (((uj ch loose num its).length:Int)+1)=(((uj ch loose num its).length+1:Nat):Int):=by rw[aN (by omega)]
  have n0:i64.wrap (((uj ch loose num its).length:Int)+((aE it).tail.length:Int))=(((uj ch loose num its).length+(aE it).tail.length:Nat):Int):=by
   rw[i64_in _ (by omega)];omega
  unfold aB.k9
  rw[m6,n0]
  have h:Sat σ w (ndC I (kf b7 it.length b6)::bC b q n c b4::ndC g (jy numI ch (lz loose (its++ [it])) a6 its.length W)::(b5++(RM++(KM++(a7++(U++(O++(E++L)))))))):=h.re
  refine Sat.st h (k:=0) rfl (by show 8<10;decide) trivial rfl λw h=>?_
  refine Sat.st h (k:=0) rfl (by show 9<10;decide) trivial rfl λw h=>?_
  have h:Sat σ w (ndC I (({kind:=4,s:=(uj ch loose num its).length+1,e:=(uj ch loose num its).length+(aE it).tail.length}:NH).nd none 0 b7 it.length b6)::bC b q n c b4::ndC g (jy numI ch (lz loose (its++ [it])) a6 its.length W)::(b5++(RM++(KM++(a7++(U++(O++(E++L)))))))):=h
  have g0:NodeDt (lawI ((dB ch loose num its).length+(loose && !its.isEmpty).toNat) it) (({kind:=4,s:=(uj ch loose num its).length+1,e:=(uj ch loose num its).length+(aE it).tail.length}:NH).nd none 0 b7 it.length b6) (U++O):=by
   rw[<-i1]
   exact⟨_,lM 1 it,none,0,b7,it.length,b6,f4,U,O,rfl,rfl,rfl,by omega,i3,i2⟩
  revert h g0
  generalize ({kind:=4,s:=(uj ch loose num its).length+1,e:=(uj ch loose num its).length+(aE it).tail.length}:NH).nd none 0 b7 it.length b6=u
  intro h g0
  obtain⟨x,r,g2⟩:=lZ0 i4
  have h7:=Ay ch loose num its it g2
  rw[g2] at f1 g3 f2⊢
  have p4:=f2 x (.head _)
  simp only[lF0] at g3
  obtain⟨a,rfl,h8⟩:=f1.get (i:=0) (by simp)
  refine⟨by decide,by simp only[lF0];omega,aa ?_⟩
  refine⟨bs x,h8 h (λy f5=>by simp only[lW0,lP0];simp[f5]),?_⟩
  rw[bM]
  refine⟨by rw[aJ,aJ,f0];omega,?_⟩
  have h:Sat σ w (b5++(ndC I u::bC b q n c b4::ndC g (jy numI ch (lz loose (its++ [it])) a6 its.length W)::(RM++(KM++(a7++(U++(O++(E++L)))))))):=h.re
  refine Sat.appS e5 h _ (by omega) λh1 h4 w c1 d2 h=>h.tk λw h=>?_
  refine⟨_,_,_,λw=>zE rowStr.ht rowStr.hi _ _ c8 1 (by simp) w,?_⟩
  have h9:=SlS.tail (σ:=σ) (L:=a7++(c1++(ndC I u::bC b q n c b4::ndC g (jy numI ch (lz loose (its++ [it])) a6 its.length W)::(RM++(KM++(U++(O++(E++L)))))))) f1 (λy f5=>lD1 _ f5)
  have h:Sat σ w (a7++(c1++(ndC I u::bC b q n c b4::ndC g (jy numI ch (lz loose (its++ [it])) a6 its.length W)::(RM++(KM++(U++(O++(E++L)))))))):=h.re
  rw[aJ]
  refine Fg (by omega) ⟨_,rfl,?_⟩
  refine yT (c:=c8 - 1) h9 (by simp;omega) (λl l5=>by have:=f2 l (.tail _ l5);omega) (by omega) h λw q1 r1 o0 j1 h=>⟨_,_,_,rfl,?_⟩
  have h:Sat σ w (c1++(o0++(a7++(ndC I u::bC b q n c b4::ndC g (jy numI ch (lz loose (its++ [it])) a6 its.length W)::(RM++(KM++(U++(O++(E++L))))))))):=h.re
  have em:r.length=(r.map λs=>if s= [] then [] else hN (mkI ch (num+its.length)).length 32++s).length:=by simp
  rw[em]
  refine Sat.appL0 d2 j1 h (by simp) (by rw[lA0,<-em];simp only[lE0];omega) λn2 n3 w e7 g5 h=>?_
  rw[h7] at g5⊢
  have h:Sat σ w (RM++(ndC g (jy numI ch (lz loose (its++ [it])) a6 its.length W)::ndC I u::bC b q n c b4::(e7++(KM++(a7++(U++(O++(E++L)))))))):=h.re
  refine⟨a6,its.length,W,Sat.ld h (lB0 _ (.head _)) (i:=7) rfl,?_⟩
  refine h.ldB10 u (lB0 _ (.tail _ (.head _))) ?_
  refine Sat.app1 rowND n1 h (v:=u.V) rfl (Ek u) (z6 u) (by omega) (by omega) (by decide) λh6 g6 w f3 g4 h=>?_
  have h:Sat σ w (ndC g (jy numI ch (lz loose (its++ [it])) a6 its.length W)::bC b q n c b4::(e7++(f3++((KM++(U++O))++(ndC I u::(a7++(E++L))))))):=h.re
  refine Sat.st h (k:=0) rfl (by show 7<10;decide) trivial rfl λw h=>?_
  have h:Sat σ w (ndC g (jy numI ch (lz loose (its++ [it])) h6 (its.length+1) g6)::bC b q n c b4::(e7++(f3++((KM++(U++O))++(ndC I u::(a7++(E++L))))))):=h
  have h5:(its++ [it]).length=its.length+1:=by simp
  rw[aN (by omega),<-h5]
  rw[<-h5] at h g4
  refine next w n2 n3 e7 h6 g6 _ f3 (KM++(U++O)) g5 ?_ g4 ?_
  ·rw[CB loose ch its num it m2]
   exact k0.append g0.one
  ·exact h.less (ndC I u::(a7++E))
 have k7: ∀w,Sat σ w (bC b q n c b4::ndC g (jy numI ch (lz loose its||decide (2<=it.length)) a6 its.length W)::ndC I (kf b7 it.length b6)::(b5++(RM++(KM++(a7++(U++(O++(E++L))))))))->
  aB.k7 R X (kE b) (d:Nat) odd b1 g loose b8 (dB ch loose num its).length b9 ((its.length:Nat):Int) I e3 (aE it).tail.length c8 (bs (mkI ch (num+its.length))) ((m:Nat):Int) ((its.length:Nat):Int) w:=by
  intro w h
  have m4:((decide (((its.length:Nat):Int)>0)) && loose)=(loose && !its.isEmpty):=by
   cases its with
   |nil=>cases loose<;>rfl
   |cons y l=>
    have:decide ((((y::l).length:Nat):Int)>0)=true:=by rw[decide_eq_true_eq];simp only[lF0];omega
    rw[this]
    cases loose<;>rfl
  show aB.k8 R X _ _ _ _ _ _ _ _ _ _ _ _ _ _ _ _ ((decide (((its.length:Nat):Int)>0)) && loose) w
  rw[m4]
  have d3:=Ge loose its it
  by_cases c9:(loose && !its.isEmpty)=true
  ·have e4:uj ch loose num its=dB ch loose num its++ [[]]:=by unfold uj;rw[if_pos c9]
   rw[c9] at d3⊢
   refine ag rfl ?_
   have g1:(hP #[])=bs []:=rfl
   rw[g1]
   have h:Sat σ w (b5++(ndC g (jy numI ch (lz loose its||decide (2<=it.length)) a6 its.length W)::bC b q n c b4::ndC I (kf b7 it.length b6)::(RM++(KM++(a7++(U++(O++(E++L)))))))):=h.re
   refine Sat.appS e5 h [] (by omega) λh1 h4 w c1 d2 h=>?_
   have h:Sat σ w (ndC g (jy numI ch (lz loose its||decide (2<=it.length)) a6 its.length W)::bC b q n c b4::ndC I (kf b7 it.length b6)::(c1++(RM++(KM++(a7++(U++(O++(E++L)))))))):=h.re
   refine Sat.st h (k:=0) rfl (by show 5<10;decide) trivial rfl λw h=>?_
   have f6:lz loose (its++ [it])=true:=by rw[d3];simp
   have h:Sat σ w (ndC g (jy numI ch (lz loose (its++ [it])) a6 its.length W)::bC b q n c b4::ndC I (kf b7 it.length b6)::(c1++(RM++(KM++(a7++(U++(O++(E++L)))))))):=by rw[f6];exact h
   rw[<-e4] at d2⊢
   exact k9 w h1 h4 c1 E d2 h.re
  ·have c9:(loose && !its.isEmpty)=false:=by simpa using c9
   have e4:uj ch loose num its=dB ch loose num its:=by unfold uj;rw[c9];simp
   rw[c9] at d3⊢
   refine af rfl ?_
   have f6:(lz loose its||decide (2<=it.length))=lz loose (its++ [it]):=by rw[d3];simp
   rw[f6] at h
   have:=k9 w b8 b9 b5 E (by rw[e4];exact e5) h
   rw[e4] at this
   exact this
 have g1:(hP #[32])=bs [32]:=rfl
 unfold aB.k6
 rw[g1]
 refine⟨bs [ch],Sat.ld h (.tail _ (.head _)) (i:=4) rfl,by rw[aJ,aJ,f0];simp,numI,Sat.ld h (.tail _ (.head _)) (i:=3) rfl,?_⟩
 rw[bM]
 by_cases e6:ch=46\/ch=41
 ·have d1:numI=((num:Nat):Int):=by rw[d0.num_,if_pos e6]
  have e2:mkI ch (num+its.length)=DO (num+its.length)++([ch]++ [32]):=by unfold mkI;rw[if_pos e6];rfl
  have p1:=d0.le
  refine ag (by rw[d1];simp) ⟨numI,Sat.ld h (.tail _ (.head _)) (i:=3) rfl,?_⟩
  have m3:i64.wrap (numI+((its.length:Nat):Int))=((num+its.length:Nat):Int):=by
   rw[d1,i64_in _ (by omega)];omega
  rw[m3]
  refine A4 (by omega) ⟨_,rfl,?_⟩
  have m1:=congrArg List.length e2
  rw[lA0] at m1
  refine⟨by rw[aJ,aJ,f0];omega,?_⟩
  rw[bM,<-e2]
  exact k7 w h
 ·have d1:numI= -1:=by rw[d0.num_,if_neg e6]
  have e2:mkI ch (num+its.length)= [ch]++ [32]:=by unfold mkI;rw[if_neg e6];rfl
  refine af (by rw[d1];rfl) ?_
  rw[<-e2]
  exact k7 w h

theorem y6 {u v:N10}{U E g:Nat}{o12:Obj}{c9 b4 Z:List ai}{g4 f2:OA}{g5 f0:Nat}{l1 a7:List (List UInt8)}(i3:SlS g4 g5 l1 c9)(g0:SlS f2 f0 a7 b4)(e5:(l1++ [[]]).length+a7.length<1000000)(g2:a7≠ [])(u8:Sl 10 ae (kE U) 1 1 u.C.toList [ndC U u])(h:Sat σ w (c9++(b4++([ndC U u]++(ndC E v::(g,o12)::Z))))){K:OA->Nat->Nat->OA->Nat->Nat->World->Prop}(fin: ∀w d2 cf d0 d3 e0 g6 (Y:List ai),SlS d2 cf (l1++ [[]]++a7) d0->Sl 10 ae d3 2 e0 (u.C.toList++v.C.toList) g6->Sat σ w (g6++(d0++(Y++(ndC E v::(g,o12)::Z))))->K d3 2 e0 d2 (l1++ [[]]++a7).length cf w):
 (∃(h7:OA),∃(h6:Nat),∃(h9:Nat),∃c4,(Instr.buildSlice al 1 #[(0,hX (bs []))]).run P w= .ok (hT h7 h6 h9) c4/\
 SameC w c4 (hZ E 0) 10/\
 SameC w c4 (hZ g 7) 1/\
 (∃(h8:OA),∃(i1:Nat),∃(i0:Nat),∃c3,(Builtin.append_ #[al,al] al #[hT g4 l1.length g5,hT h7 h6 h9]).run P c4= .ok (hT h8 i1 i0) c3/\
 SameC c4 c3 (hZ E 0) 10/\
 SameC c4 c3 (hZ g 7) 1/\
 (∃(n0:OA),∃(o2:Nat),∃(o0:Nat),∃e7,(Builtin.append_ #[al,al] al #[hT h8 i1 i0,hT f2 a7.length f0]).run P c3= .ok (hT n0 o2 o0) e7/\
 SameC c3 e7 (hZ E 0) 10/\
 SameC c3 e7 (hZ g 7) 1/\
 ∃(t4:OA),∃(p1:Nat),∃(m4:Nat),∃i2,(Instr.buildSlice au 1 #[(0,v.V)]).run P e7= .ok (hT t4 p1 m4) i2/\
 SameC e7 i2 (hZ g 7) 1/\
 ∃(o3:OA),∃(t6:Nat),∃(r3:Nat),∃t7,(Builtin.append_ #[au,au] au #[hT (kE U) 1 1,hT t4 p1 m4]).run P i2= .ok (hT o3 t6 r3) t7/\
 K o3 t6 r3 n0 o2 o0 t7)/\
 (∃(s7:OA),∃(m5:Nat),∃(q4:Nat),∃e8,(Instr.buildSlice au 1 #[(0,v.V)]).run P c3= .ok (hT s7 m5 q4) e8/\
 SameC c3 e8 (hZ g 7) 1/\
 ∃(r1:OA),∃(r7:Nat),∃(s3:Nat),∃f5,(Builtin.append_ #[al,al] al #[hT h8 i1 i0,hT f2 a7.length f0]).run P e8= .ok (hT r1 r7 s3) f5/\
 SameC e8 f5 (hZ E 0) 10/\
 SameC e8 f5 (hZ g 7) 1/\
 ∃(r5:OA),∃(n2:Nat),∃(t5:Nat),∃u0,(Builtin.append_ #[au,au] au #[hT (kE U) 1 1,hT s7 m5 q4]).run P f5= .ok (hT r5 n2 t5) u0/\
 K r5 n2 t5 r1 r7 s3 u0))/\
 (∃(r6:OA),∃(m2:Nat),∃(s6:Nat),∃e6,(Instr.buildSlice au 1 #[(0,v.V)]).run P c4= .ok (hT r6 m2 s6) e6/\
 SameC c4 e6 (hZ g 7) 1/\
 ∃(s1:OA),∃(t0:Nat),∃(q0:Nat),∃e1,(Builtin.append_ #[al,al] al #[hT g4 l1.length g5,hT h7 h6 h9]).run P e6= .ok (hT s1 t0 q0) e1/\
 SameC e6 e1 (hZ E 0) 10/\
 SameC e6 e1 (hZ g 7) 1/\
 ∃(m1:OA),∃(n3:Nat),∃(r9:Nat),∃f3,(Builtin.append_ #[al,al] al #[hT s1 t0 q0,hT f2 a7.length f0]).run P e1= .ok (hT m1 n3 r9) f3/\
 SameC e1 f3 (hZ E 0) 10/\
 SameC e1 f3 (hZ g 7) 1/\
 ∃(s8:OA),∃(r8:Nat),∃(r4:Nat),∃t8,(Builtin.append_ #[au,au] au #[hT (kE U) 1 1,hT r6 m2 s6]).run P f3= .ok (hT s8 r8 r4) t8/\
 K s8 r8 r4 m1 n3 r9 t8))/\
 (∃(s4:OA),∃(p4:Nat),∃(m6:Nat),∃e9,(Instr.buildSlice au 1 #[(0,v.V)]).run P w= .ok (hT s4 p4 m6) e9/\
 SameC w e9 (hZ g 7) 1/\
 ∃(s2:OA),∃(q8:Nat),∃(m3:Nat),∃e2,(Instr.buildSlice al 1 #[(0,hX (bs []))]).run P e9= .ok (hT s2 q8 m3) e2/\
 SameC e9 e2 (hZ E 0) 10/\
 SameC e9 e2 (hZ g 7) 1/\
 ∃(q3:OA),∃(o4:Nat),∃(t3:Nat),∃e3,(Builtin.append_ #[al,al] al #[hT g4 l1.length g5,hT s2 q8 m3]).run P e2= .ok (hT q3 o4 t3) e3/\
 SameC e2 e3 (hZ E 0) 10/\
 SameC e2 e3 (hZ g 7) 1/\
 ∃(p3:OA),∃(t2:Nat),∃(p5:Nat),∃f4,(Builtin.append_ #[al,al] al #[hT q3 o4 t3,hT f2 a7.length f0]).run P e3= .ok (hT p3 t2 p5) f4/\
 SameC e3 f4 (hZ E 0) 10/\
 SameC e3 f4 (hZ g 7) 1/\
 ∃(j1:OA),∃(s5:Nat),∃(k0:Nat),∃t9,(Builtin.append_ #[au,au] au #[hT (kE U) 1 1,hT s4 p4 m6]).run P f4= .ok (hT j1 s5 k0) t9/\
 K j1 s5 k0 p3 t2 p5 t9):=by
  have i4:l1.length+1<1000000:=by rw[lA0] at e5;simp only[lE0] at e5;omega
  have b6: ∀ {w b7:World} {A B:List ai},Sat σ w A->Sat σ b7 B->ndC E v∈A->ndC E v∈B->SameC w b7 (hZ E 0) 10:=λh i8 m j0=>h.same i8 m j0 10
  have a6: ∀ {w b7:World} {A B:List ai},Sat σ w A->Sat σ b7 B->(g,o12)∈A->(g,o12)∈B->SameC w b7 (hZ g 7) 1:=λh i8 m j0=>h.same i8 m j0 1
  have g3: ∀(w:World) (d2:OA) (cf:Nat) (d0:List ai) (bx:Nat),SlS d2 cf (l1++ [[]]++a7) d0->Sat σ w ([ndC U u]++(ndC bx v::(d0++(ndC E v::(g,o12)::Z))))->
   ∃(d3:OA),∃(u1:Nat),∃(e0:Nat),∃b3,(Builtin.append_ #[au,au] au #[hT (kE U) 1 1,hT (kE bx) 1 1]).run P w= .ok (hT d3 u1 e0) b3/\K d3 u1 e0 d2 (l1++ [[]]++a7).length cf b3:=by
   intro w d2 cf d0 bx u2 h
   refine Sat.appNd u8 h (by omega) λd3 e0 b3 g6 u4 h=>?_
   exact fin b3 d2 cf d0 d3 e0 g6 [] u2 u4 h
  refine⟨?_,?_⟩
  ·refine h.buildS [] λv2 v0 b7 f1 f6 W=>⟨b6 h W (by simp) (by simp),a6 h W (by simp) (by simp),?_,?_⟩
   ·have W:Sat σ b7 (c9++(f1++(b4++([ndC U u]++(ndC E v::(g,o12)::Z))))):=W.re
    refine Sat.appL i3 f6 W (by simp) i4 λq6 c6 b3 g1 e4 y=>⟨b6 W y (by simp) (by simp),a6 W y (by simp) (by simp),?_,?_⟩
    ·refine Sat.appL e4 g0 y g2 e5 λq7 c7 g7 c8 d1 O=>⟨b6 y O (by simp) (by simp),a6 y O (by simp) (by simp),?_⟩
     refine Sat.buildN O v λbx b5 I=>⟨a6 O I (by simp) (by simp),?_⟩
     have I:Sat σ b5 (ndC bx v::(c8++([ndC U u]++(ndC E v::(g,o12)::Z)))):=I
     exact g3 b5 q7 c7 c8 bx d1 I.re
    ·refine Sat.buildN y v λbx b5 I=>⟨a6 y I (by simp) (by simp),?_⟩
     have I:Sat σ b5 (ndC bx v::(g1++(b4++([ndC U u]++(ndC E v::(g,o12)::Z))))):=I
     have I:Sat σ b5 (g1++(b4++(ndC bx v::([ndC U u]++(ndC E v::(g,o12)::Z))))):=I.re
     refine Sat.appL e4 g0 I g2 e5 λq7 c7 g7 c8 d1 O=>⟨b6 I O (by simp) (by simp),a6 I O (by simp) (by simp),?_⟩
     exact g3 g7 q7 c7 c8 bx d1 O.re
   ·refine Sat.buildN W v λbx b3 y=>⟨a6 W y (by simp) (by simp),?_⟩
    have y:Sat σ b3 (ndC bx v::(f1++(c9++(b4++([ndC U u]++(ndC E v::(g,o12)::Z)))))):=y
    have y:Sat σ b3 (c9++(f1++(b4++(ndC bx v::([ndC U u]++(ndC E v::(g,o12)::Z)))))):=y.re
    refine Sat.appL i3 f6 y (by simp) i4 λq6 c6 g7 g1 e4 O=>⟨b6 y O (by simp) (by simp),a6 y O (by simp) (by simp),?_⟩
    refine Sat.appL e4 g0 O g2 e5 λq7 c7 b5 c8 d1 I=>⟨b6 O I (by simp) (by simp),a6 O I (by simp) (by simp),?_⟩
    exact g3 b5 q7 c7 c8 bx d1 I.re
  ·refine Sat.buildN h v λbx b7 W=>⟨a6 h W (by simp) (by simp),?_⟩
   have W:Sat σ b7 (ndC bx v::(c9++(b4++([ndC U u]++(ndC E v::(g,o12)::Z))))):=W
   refine W.buildS [] λv2 v0 b3 f1 f6 y=>⟨b6 W y (by simp) (by simp),a6 W y (by simp) (by simp),?_⟩
   have y:Sat σ b3 (c9++(f1++(b4++(ndC bx v::([ndC U u]++(ndC E v::(g,o12)::Z)))))):=y.re
   refine Sat.appL i3 f6 y (by simp) i4 λq6 c6 g7 g1 e4 O=>⟨b6 y O (by simp) (by simp),a6 y O (by simp) (by simp),?_⟩
   refine Sat.appL e4 g0 O g2 e5 λq7 c7 b5 c8 d1 I=>⟨b6 O I (by simp) (by simp),a6 O I (by simp) (by simp),?_⟩
   exact g3 b5 q7 c7 c8 bx d1 I.re

theorem pF (ls:List LT):(aE [.para ls]).tail=ls.map cu:=by
 show ls.map cu++aE []=_
 rw[aE,lG0]
theorem zw (ls:List LT)(bn:BN):(aE [.para ls,bn]).tail=ls.map cu++ [[]]++bg bn:=by
 show ls.map cu++([]::(bg bn++aE []))=_
 rw[aE];simp
theorem Ga (d:Nat)(ls:List LT)(y:lsA ls):abS [.para ls]/\smS (d - 1) [.para ls]/\ ∀g,flS g [.para ls]:=⟨⟨y,(λc hc=>by cases hc),trivial⟩,⟨by simp only[smB],trivial⟩,λg=>⟨trivial,trivial⟩⟩
theorem F9 (ls:List LT)(E:OA)(g y:Nat)(us:List Value)(RM KM:List ai)(V:lsA ls)(I:NDs (inT (fg ls)) us KM)(O:Sl 10 ae E g y us RM)(U:g<=30):NodeDt (mI 1 (.para ls)) (({kind:=6,s:=1,e:=ls.length}:NH).nd none 0 E g y) (RM++KM):=by
 have e:mI 1 (.para ls)= .mk {kind:=6,s:=1,e:=ls.length} (inT (fg ls)):=by
  rw[mI]
  have:1+ls.length - 1=ls.length:=by omega
  rw[this]
 rw[e]
 exact⟨_,_,none,0,E,g,y,us,RM,KM,rfl,rfl,rfl,by omega,I,O⟩
theorem Gl {d:Nat}{odd loose:Bool}{b b1 g2 y:Nat}{q:OA}{n c:Nat}{vs:List UInt8}{s s':BS}{Y:List ai}{X:OA->Int->Bool->Nat->Nat->Bool->OA->Nat->Nat->Int->Int->WP}{g3:OA}{g4 g5:Nat}{f6 f4 g0:Int}(hd:d<=3)(t0:1<=d)(k0:xW (d - 1))(i4:Rd σ Y q n vs)(h3:s.dp d)(i1:s.kp s')(h6:s.flat=true)(l5:s.fq=true->False)(h:Sat σ w (bC b q n c s'::(ndC y (kf none 0 0)::Y)))(k5: ∀(it:List BN) (a6:BS) (i8:OA) (h9:Nat) (h8:List Value) (h5 h2:List ai) (h7:OA) (h4:Nat) (g6 p5:List ai) (w:World),abS it->it≠ []->it.length<=2->smS (d - 1) it->(s.flat=true->(∃ls t,it= .para ls::t)/\flS s.fq it/\(s.fq=true->it.length=1))->s.kp a6->SlS h7 h4 (aE it).tail g6->NDs (lM 1 it) h8 h2->Sl 10 ae i8 it.length h9 h8 h5->
  Sat σ w (bC b q n c a6::ndC y (kf i8 it.length h9)::(g6++(h5++(h2++(p5++Y)))))->aB.k5 R X (kE b) (d:Nat) odd b1 g2 loose g3 g4 g5 f6 y h7 (aE it).tail.length h4 f4 g0 w):
 aB.k4 R X (kE b) (d:Nat) odd b1 g2 loose g3 g4 g5 f6 y f4 g0 true w:=by
 have p4:i64.wrap (((d:Nat):Int) - 1)=((d - 1:Nat):Int):=by rw[il (by omega) (by omega)]
 have r3:s'.flat=true:=by rw[i1.1];exact h6
 have n1:Rd σ (ndC y (kf none 0 0)::Y) q n vs:=i4.up λw h=>h.less [ndC y (kf none 0 0)]
 refine ag rfl (aa ⟨_,Sat.ld h (.head _) (i:=3) rfl,?_⟩)
 refine ag r3 ?_
 refine pZ n1 h λw ls a6 q0 q4 O e7 e1 e6 o3 E PK f0 p3 h1 j1 m5 o4 h=>⟨_,_,_,_,_,_,_,_,_,_,_,_,_,_,_,_,_,rfl,?_⟩
 obtain⟨m3,o0,o2⟩:=Ga d ls f0
 have s3:=f0.2.1
 refine Sat.bx h λI w h=>?_
 have h:Sat σ w (ndC I {}::(O++(E++(PK++(bC b q n c a6::(ndC y (kf none 0 0)::Y)))))):=h
 refine h.st10 0 {} (({kind:=6}:NH).nd none 0 e7 e1 e6) λw h=>?_
 have h:Sat σ w (ndC I (({kind:=6}:NH).nd none 0 e7 e1 e6)::(O++(E++(PK++(bC b q n c a6::(ndC y (kf none 0 0)::Y)))))):=h
 refine Sat.st h (k:=0) rfl (by show 8<10;decide) trivial rfl λw h=>?_
 refine Sat.st h (k:=0) rfl (by show 9<10;decide) trivial rfl λw h=>h.tk λw h=>?_
 rw[lS0] at h
 have h:Sat σ w (ndC I (({kind:=6,s:=1,e:=ls.length}:NH).nd none 0 e7 e1 e6)::(O++(E++(PK++(bC b q n c a6::(ndC y (kf none 0 0)::Y)))))):=h
 have f2:=F9 ls e7 e1 e6 o3 E PK f0 j1 m5 o4
 revert h f2
 generalize ({kind:=6,s:=1,e:=ls.length}:NH).nd none 0 e7 e1 e6=u
 intro h f2
 refine h.ldB10 u (.head _) ?_
 refine Sat.buildN h u λg w h=>?_
 have h:Sat σ w (ndC g u::ndC I u::(O++(E++(PK++(bC b q n c a6::(ndC y (kf none 0 0)::Y)))))):=h
 have h:Sat σ w (ndC y (kf none 0 0)::ndC g u::ndC I u::(O++(E++(PK++(bC b q n c a6::Y))))):=h.re
 refine Sat.st h (k:=0) rfl (by show 7<10;decide) trivial rfl λw h=>?_
 have h:Sat σ w (ndC y (kf (kE g) 1 1)::ndC g u::ndC I u::(O++(E++(PK++(bC b q n c a6::Y))))):=h
 have h:Sat σ w (bC b q n c a6::(ndC y (kf (kE g) 1 1)::ndC g u::ndC I u::(O++(E++(PK++Y))))):=h.re
 have g7:Rd σ (ndC y (kf (kE g) 1 1)::ndC g u::ndC I u::(O++(E++(PK++Y)))) q n vs:=i4.up λw h=>h.less (ndC y (kf (kE g) 1 1)::ndC g u::ndC I u::(O++(E++PK)))
 refine eX (k:=2) g7 (by omega) (by omega) h λw r i3 hr r1 h=>⟨_,rfl,?_⟩
 have b5:=i1.trans (p3.kp.trans r1.kp)
 refine bp (λ_=>?_) λ_=>?_
 ·rw[p4]
  refine k0 odd g7 ⟨(b5.dp h3).1,by have:=(b5.dp h3).2;omega⟩ h λw bn W t3 t2 f1 e3 s1 d1 c4 c8 m1 V U d2 q3 p1 r8 n0 n3 s7 h=>⟨_,_,_,_,_,_,_,_,_,_,_,_,_,_,_,_,_,rfl,?_⟩
  have m4:=b5.trans q3
  obtain⟨s9,s8,n2⟩:=uo (by omega) d2.ab d2.sm
  refine Sat.bx h λc9 w h=>?_
  have h:Sat σ w (ndC c9 {}::(f1++(V++(U++(bC b q n c W::(ndC y (kf (kE g) 1 1)::ndC g u::ndC I u::(O++(E++(PK++Y))))))))):=h
  refine h.st10 0 {} (e3.nd none 0 d1 c4 c8) λw h=>?_
  have h:Sat σ w (ndC c9 (e3.nd none 0 d1 c4 c8)::(f1++(V++(U++(bC b q n c W::(ndC y (kf (kE g) 1 1)::ndC g u::ndC I u::(O++(E++(PK++Y))))))))):=h
  have r5:i64.wrap ((((ls.map cu).length:Nat):Int)+2)=((ls.length+2:Nat):Int):=by
   rw[lS0,i64_in _ (by omega)];omega
  have r6:i64.wrap (i64.wrap ((((ls.map cu).length:Nat):Int)+1)+(((bg bn).length:Nat):Int))=((ls.length+2+(bg bn).length - 1:Nat):Int):=by
   rw[lS0,aN (by omega),i64_in _ (by omega)];omega
  rw[r5,r6]
  refine Sat.st h (k:=0) rfl (by show 8<10;decide) trivial rfl λw h=>?_
  refine Sat.st h (k:=0) rfl (by show 9<10;decide) trivial rfl λw h=>h.tk λw h=>?_
  have h:Sat σ w (ndC c9 (({e3 with s:=ls.length+2,e:=ls.length+2+(bg bn).length - 1}:NH).nd none 0 d1 c4 c8)::(f1++(V++(U++(bC b q n c W::(ndC y (kf (kE g) 1 1)::ndC g u::ndC I u::(O++(E++(PK++Y))))))))):=h
  have f5:NodeDt (mI (1+(ls.map cu).length+1) bn) (({e3 with s:=ls.length+2,e:=ls.length+2+(bg bn).length - 1}:NH).nd none 0 d1 c4 c8) (V++U):=by
   have e:1+(ls.map cu).length+1=ls.length+2:=by rw[lS0];omega
   rw[e,r8.2.2 _ (by omega)]
   exact⟨_,s1,none,0,d1,c4,c8,m1,V,U,rfl,rfl,rfl,by omega,n0,n3⟩
  revert h f5
  generalize ({e3 with s:=ls.length+2,e:=ls.length+2+(bg bn).length - 1}:NH).nd none 0 d1 c4 c8=v
  intro h f5
  refine⟨kE g,1,1,Sat.ld (i:=7) (cs:=(kf (kE g) 1 1).C.toList) (e:=ae) h (by simp) rfl,?_⟩
  refine h.ldB10 v (.head _) ?_
  have done: ∀(w:World) (b6:OA) (cf:Nat) (a7:List ai) (c3:OA) (d0:Nat) (b4 d3:List ai),SlS b6 cf (ls.map cu++ [[]]++bg bn) a7->Sl 10 ae c3 2 d0 (u.C.toList++v.C.toList) b4->
   Sat σ w (ndC y (kf (kE g) 1 1)::(a7++(b4++(d3++(V++(U++(bC b q n c W::(E++(PK++Y)))))))))->
   stV w (hZ y 7) (hT c3 2 d0) λw=>aB.k5 R X (kE b) (d:Nat) odd b1 g2 loose g3 g4 g5 f6 y b6 (ls.map cu++ [[]]++bg bn).length cf f4 g0 w:=by
   intro w b6 cf a7 c3 d0 b4 d3 f3 g1 h
   refine Sat.st h (k:=0) rfl (by show 7<10;decide) trivial rfl λw h=>?_
   have h:Sat σ w (ndC y (kf c3 2 d0)::(a7++(b4++(d3++(V++(U++(bC b q n c W::(E++(PK++Y))))))))):=h
   have h:Sat σ w (bC b q n c W::ndC y (kf c3 2 d0)::(a7++(b4++(((E++PK)++(V++U))++(d3++Y))))):=h.re
   have j0:abS [.para ls,bn]:=⟨f0,(λc _ hc=>by cases hc),d2.ab,(λc hc=>by cases hc),trivial⟩
   have m2:lM 1 [BN.para ls,bn]= [mI 1 (.para ls),mI (1+(ls.map cu).length+1) bn]:=by rw[lM,lM,lM];rfl
   have:=k5 [.para ls,bn] W c3 d0 _ b4 ((E++PK)++(V++U)) b6 cf a7 d3 w j0 (by simp) (by simp) ⟨by simp only[smB],d2.sm,trivial⟩ (λ_=>⟨⟨ls,[bn],rfl⟩,⟨trivial,?_,trivial⟩,λq8=>(l5 q8).elim⟩) m4 (by rw[zw];exact f3) (by rw[m2];exact f2.cons f5.one) g1 h
   ·rw[zw] at this
    exact this
   ·have:=d2.fl (by rw[b5.1];exact h6)
    unfold BS.fq at this⊢
    rw[b5.2] at this
    exact this
  have r9:(hP #[])=bs []:=rfl
  rw[r9]
  have m6:Sl 10 ae (kE g) 1 1 u.C.toList [ndC g u]:=slN
  have s6:(ls.map cu).length<1000:=by rw[lS0];omega
  have h:Sat σ w (O++(f1++([ndC g u]++(ndC c9 v::ndC y (kf (kE g) 1 1)::(ndC I u::(V++(U++(bC b q n c W::(E++(PK++Y)))))))))):=h.re
  refine y6 (Z:=ndC I u::(V++(U++(bC b q n c W::(E++(PK++Y)))))) (o12:=cel (kf (kE g) 1 1).C.toList ae) h1 p1 (by simp only[lA0,lE0];omega) n2 m6 h λw b6 cf a7 r4 r7 i2 i0 f3 g1 h=>?_
  have h:Sat σ w (i2++(a7++(i0++(ndC c9 v::ndC y (kf (kE g) 1 1)::(ndC I u::(V++(U++(bC b q n c W::(E++(PK++Y)))))))))):=h
  exact done w b6 cf a7 r4 r7 i2 (i0++ [ndC c9 v,ndC I u]) f3 g1 h.re
 ·have h:Sat σ w (bC b q n c i3::ndC y (kf (kE g) 1 1)::(O++([ndC g u]++((E++PK)++([ndC I u]++Y))))):=h.re
  have:=k5 [.para ls] i3 (kE g) 1 u.C.toList [ndC g u] (E++PK) q0 q4 O [ndC I u] w m3 (by simp) (by simp) o0 (λ_=>⟨⟨ls,[],rfl⟩,o2 _,λ_=>rfl⟩) b5 (by rw[pF];exact h1) (by rw[lM,lM];exact f2.one) slN h
  rw[pF] at this
  exact this
theorem Gh {d:Nat}(hd:d<=3)(o2:1<=d->xW (d - 1)):HM d:=by
 intro σ w L R b q n c vs s odd h9 j1 h t2
 have t5:i64.max=9223372036854775807:=rfl
 refine aB.sound ?_
 refine Sat.bx h λb1 w h=>?_
 refine Sat.bx h λy w h=>?_
 have h:Sat σ w (ndC y {}::ndC b1 {}::bC b q n c s::L):=h
 refine h.st10 0 {} (jy (-1) 45 false none 0 0) λw h=>?_
 have h:Sat σ w (ndC y (jy (-1) 45 false none 0 0)::ndC b1 {}::bC b q n c s::L):=h
 have k3: ∀(ch:UInt8) (num:Nat) (numI:Int) (loose:Bool) (f0:BS) (w:World),MkP odd ch num numI->(s.flat=true->s.fq=true->loose=false)->s.kp f0->Sat σ w (bC b q n c f0::ndC y (jy numI ch false none 0 0)::ndC b1 {}::L)->
  aB.k3 R (kE b) (d:Nat) odd b1 y loose w:=by
  intro ch num numI loose f0 w e3 n2 k0 h
  refine eX (k:=3) (h9.up λw h=>h.less [ndC y (jy numI ch false none 0 0),ndC b1 {}]) (by omega) (by omega) h λw m I u0 e9 h=>⟨_,rfl,?_⟩
  have t0:i64.wrap (1+((m:Nat):Int))=((m+1:Nat):Int):=by
   rw[i64_in _ (by omega)];omega
  rw[t0]
  intro X p4
  have r5: ∀k (its:List (List BN)) (d1:OA) (d3:Nat) (O:List ai) (E:OA) (g:Nat) (us:List Value) (RM KM:List ai) (s':BS) (w:World),its.length+k=m+1->abJ its->smJ (d - 1) its->(s.flat=true->flJ s.fq its)->(s.flat=true->s.fq=true->its.all (λit=>it.length==1)=true)->s.kp s'->SlS d1 d3 (dB ch loose num its) O->NDs (ut loose its) us KM->Sl 10 ae E its.length g us RM->
   Sat σ w (bC b q n c s'::ndC y (jy numI ch (lz loose its) E its.length g)::(O++(RM++(KM++(ndC b1 {}::L)))))->X (kE b) (d:Nat) odd b1 y loose d1 (dB ch loose num its).length d3 ((m+1:Nat):Int) ((its.length:Nat):Int) w:=by
   intro k
   induction k with
   |zero=>
    intro its d1 d3 O E g us RM KM s' w q1 h1 g5 i3 i2 f1 f5 e5 e6 h
    refine p4 _ _ _ _ _ _ _ _ _ _ _ _ (af (by rw[decide_eq_false_iff_not];omega) ?_)
    refine h.tk λw h=>?_
    refine h.ldB10 (jy numI ch (lz loose its) E its.length g) (.tail _ (.head _)) ?_
    have h:Sat σ w (ndC b1 {}::ndC y (jy numI ch (lz loose its) E its.length g)::(O++(RM++(KM++(bC b q n c s'::L))))):=h.re
    refine h.st10 0 {} (jy numI ch (lz loose its) E its.length g) λw h=>?_
    have h:Sat σ w (ndC b1 (jy numI ch (lz loose its) E its.length g)::ndC y (jy numI ch (lz loose its) E its.length g)::(O++(RM++(KM++(bC b q n c s'::L))))):=h
    refine h.ldB10 _ (.head _) ?_
    have e8:its≠ []:=by rintro rfl;simp at q1
    refine t2 w (.list ch num loose its) s' d1 d3 O {kind:=3,num:=numI,char:= [ch],loose:=lz loose its} (ut loose its) E its.length g us RM KM ⟨⟨e3.ch4,by have:=e3.le;omega,e8,h1⟩,?_,?_,λU=>⟨λc4=>⟨n2 U c4,i2 U c4⟩,i3 U⟩⟩ f1 f5 ⟨rfl,rfl,λf U=>?_⟩ e5 e6 (by omega) (h.less [ndC b1 (jy numI ch (lz loose its) E its.length g),ndC y (jy numI ch (lz loose its) E its.length g)])
    ·simp only[smB]
     refine⟨by omega,by omega,?_⟩
     have e:d+1 - 2=d - 1:=by omega
     rw[e];exact g5
    ·intro t3 q8
     have e:some ch=some t3:=q8
     obtain rfl:=Option.some.inj e
     have c5:=e3.ch_
     cases odd
     ·exact c5
     ·exact c5
    ·rw[mI,e3.num_];rfl
   |succ k q0=>
    intro its d1 d3 O E g us RM KM s' w q1 h1 g5 i3 i2 f1 f5 e5 e6 h
    have n1:=(Bg.2.2 its h1).1
    have q3: ∀x∈its,(aE x).tail≠ []:=λx s9=>by
     obtain⟨c0,r0,rest,e,_⟩:=(uA.2.2 its n1 x s9).2.2
     rw[e];simp
    have o0:(dB ch loose num its).length<=2000:=by
     by_cases h0:its= []
     ·subst h0;simp[dB]
     ·have t8:=((qJ.2.2 its n1 (d - 1) g5).1 ch loose num).2 h0
      have t9:=E1 (show d - 1<=3 by omega)
      have u1:=lL5 (show its.length<=2 by omega) (show 2*NBd (d - 1)+2<=648 by omega)
      omega
    refine p4 _ _ _ _ _ _ _ _ _ _ _ _ (ag (by rw[decide_eq_true_eq];omega) ?_)
    refine Sat.bx h λV w h=>?_
    have h:Sat σ w (ndC V {}::bC b q n c s'::ndC y (jy numI ch (lz loose its) E its.length g)::(O++(RM++(KM++(ndC b1 {}::L))))):=h
    refine h.st10 0 {} (kf none 0 0) λw h=>?_
    have h:Sat σ w (ndC V (kf none 0 0)::bC b q n c s'::ndC y (jy numI ch (lz loose its) E its.length g)::(O++(RM++(KM++(ndC b1 {}::L))))):=h
    have h:Sat σ w (bC b q n c s'::(ndC V (kf none 0 0)::ndC y (jy numI ch (lz loose its) E its.length g)::(O++(RM++(KM++(ndC b1 {}::L)))))):=h.re
    have p3:Rd σ (ndC V (kf none 0 0)::ndC y (jy numI ch (lz loose its) E its.length g)::(O++(RM++(KM++(ndC b1 {}::L))))) q n vs:=h9.up λw h=>h.less (ndC V (kf none 0 0)::ndC y (jy numI ch (lz loose its) E its.length g)::(O++(RM++(KM++ [ndC b1 {}]))))
    have k6: ∀(it:List BN) (I:BS) (b5:OA) (b4:Nat) (d0:List Value) (c1 b9:List ai) (c9:OA) (c8:Nat) (b6 d2:List ai) (w:World),abS it->it≠ []->it.length<=2->smS (d - 1) it->(s.flat=true->(∃ls t,it= .para ls::t)/\flS s.fq it/\(s.fq=true->it.length=1))->s.kp I->SlS c9 c8 (aE it).tail b6->NDs (lM 1 it) d0 b9->Sl 10 ae b5 it.length b4 d0 c1->
     Sat σ w (bC b q n c I::ndC y (jy numI ch (lz loose its||decide (2<=it.length)) E its.length g)::ndC V (kf b5 it.length b4)::(O++(RM++(KM++(b6++(c1++(b9++(d2++(ndC b1 {}::L)))))))))->
     aB.k6 R X (kE b) (d:Nat) odd b1 y loose d1 (dB ch loose num its).length d3 ((its.length:Nat):Int) V c9 (aE it).tail.length c8 ((m+1:Nat):Int) ((its.length:Nat):Int) w:=by
     intro it I b5 b4 d0 c1 b9 c9 c8 b6 d2 w g0 e8 g1 f3 e7 W g6 h3 g7 h
     have q4:(its++ [it]).length=its.length+1:=by simp
     have U:=qJ.2.1 it (Bg.2.1 it g0).1 (d - 1) f3
     by_cases t7:d=0
     ·refine CE (d:=d) (by omega) (by omega) e3 (by omega) o0 q3 g0 e8 g1 (B1.2.1 it (d - 1) d (by omega) f3) f5 e5 e6 g6 h3 g7 h (λw d1 d3 O E g us RM KM f5 e5 e6 h=>?_) rfl
      exact q0 (its++ [it]) d1 d3 O E g us RM KM I w (by rw[q4];omega) (vV its it h1 e8 g0) (va its (d - 1) it g5 g1 f3) (λU=>vH its it (i3 U) (e7 U).1 (e7 U).2.1) (λU c4=>by rw[lD5,i2 U c4];simp[(e7 U).2.2 c4]) W f5 e5 e6 h
     ·refine CE (d:=d) (by omega) (by omega) e3 (by omega) o0 q3 g0 e8 g1 (B1.2.1 it (d - 1) d (by omega) f3) f5 e5 e6 g6 h3 g7 h (λw d1 d3 O E g us RM KM f5 e5 e6 h=>?_) rfl
      exact q0 (its++ [it]) d1 d3 O E g us RM KM I w (by rw[q4];omega) (vV its it h1 e8 g0) (va its (d - 1) it g5 g1 f3) (λU=>vH its it (i3 U) (e7 U).1 (e7 U).2.1) (λU c4=>by rw[lD5,i2 U c4];simp[(e7 U).2.2 c4]) W f5 e5 e6 h
    have k5: ∀(it:List BN) (I:BS) (b5:OA) (b4:Nat) (d0:List Value) (c1 b9:List ai) (c9:OA) (c8:Nat) (b6 d2:List ai) (w:World),abS it->it≠ []->it.length<=2->smS (d - 1) it->(s.flat=true->(∃ls t,it= .para ls::t)/\flS s.fq it/\(s.fq=true->it.length=1))->s.kp I->SlS c9 c8 (aE it).tail b6->NDs (lM 1 it) d0 b9->Sl 10 ae b5 it.length b4 d0 c1->
     Sat σ w (bC b q n c I::ndC y (jy numI ch (lz loose its) E its.length g)::ndC V (kf b5 it.length b4)::(O++(RM++(KM++(b6++(c1++(b9++(d2++(ndC b1 {}::L)))))))))->
     aB.k5 R X (kE b) (d:Nat) odd b1 y loose d1 (dB ch loose num its).length d3 ((its.length:Nat):Int) V c9 (aE it).tail.length c8 ((m+1:Nat):Int) ((its.length:Nat):Int) w:=by
     intro it I b5 b4 d0 c1 b9 c9 c8 b6 d2 w g0 e8 g1 f3 e7 W g6 h3 g7 h
     refine⟨lz loose its,Sat.ld h (.tail _ (.head _)) (i:=5) rfl,bp (λhz=>?_) λhz=>?_⟩
     ·refine Sat.st h (k:=1) rfl (by show 5<10;decide) trivial rfl λw h=>?_
      have h:Sat σ w (bC b q n c I::ndC y (jy numI ch true E its.length g)::ndC V (kf b5 it.length b4)::(O++(RM++(KM++(b6++(c1++(b9++(d2++(ndC b1 {}::L))))))))):=h
      have e:(lz loose its||decide (2<=it.length))=true:=by rw[hz];rfl
      exact k6 it I b5 b4 d0 c1 b9 c9 c8 b6 d2 w g0 e8 g1 f3 e7 W g6 h3 g7 (by rw[e];exact h)
     ·refine⟨b5,it.length,b4,Sat.ld h (.tail _ (.tail _ (.head _))) (i:=7) rfl,?_⟩
      refine Sat.st h (k:=1) rfl (by show 5<10;decide) trivial rfl λw h=>?_
      have h:Sat σ w (bC b q n c I::ndC y (jy numI ch (decide (((it.length:Nat):Int)>1)) E its.length g)::ndC V (kf b5 it.length b4)::(O++(RM++(KM++(b6++(c1++(b9++(d2++(ndC b1 {}::L))))))))):=h
      have e:(lz loose its||decide (2<=it.length))=decide (((it.length:Nat):Int)>1):=by
       rw[hz,Bool.false_or,decide_eq_decide];omega
      exact k6 it I b5 b4 d0 c1 b9 c9 c8 b6 d2 w g0 e8 g1 f3 e7 W g6 h3 g7 (by rw[e];exact h)
    have r6: ∀ls,lsA ls->abS [.para ls]/\smS (d - 1) [.para ls]/\ ∀o4,flS o4 [.para ls]:=λls g4=>⟨⟨g4,(λc hc=>by cases hc),trivial⟩,⟨by simp only[smB],trivial⟩,λo4=>⟨trivial,trivial⟩⟩
    have r3: ∀(ls:List LT) (E:OA) (h4 g:Nat) (us:List Value) (RM KM:List ai),lsA ls->NDs (inT (fg ls)) us KM->Sl 10 ae E h4 g us RM->h4<=30->NodeDt (mI 1 (.para ls)) (({kind:=6,s:=1,e:=ls.length}:NH).nd none 0 E h4 g) (RM++KM):=by
     intro ls E h4 g us RM KM g4 e5 e6 t6
     have e:mI 1 (.para ls)= .mk {kind:=6,s:=1,e:=ls.length} (inT (fg ls)):=by
      rw[mI]
      have:1+ls.length - 1=ls.length:=by omega
      rw[this]
     rw[e]
     exact⟨_,_,none,0,E,h4,g,us,RM,KM,rfl,rfl,rfl,by omega,e5,e6⟩
    have s5:decide (((d:Nat):Int)>0)=decide (0<d):=by rw[decide_eq_decide];omega
    rw[s5]
    by_cases g3:(loose && decide (0<d))=true
    ·rw[g3]
     have m4:1<=d:=by
      have:=(lL1 _ _▸g3).2
      rw[decide_eq_true_eq] at this
      exact this
     have s4:loose=true:=(lL1 _ _▸g3).1
     have s8:i64.wrap (((d:Nat):Int) - 1)=((d - 1:Nat):Int):=by rw[il (by omega) (by omega)]
     by_cases U:s'.flat=true
     ·have g2:s.flat=true:=by rw[<-f1.1];exact U
      have r1:s.fq=true->False:=λc4=>by have:=n2 g2 c4;rw[s4] at this;cases this
      refine Gl (Y:=ndC y (jy numI ch (lz loose its) E its.length g)::(O++(RM++(KM++(ndC b1 {}::L))))) hd m4 (o2 m4) (h9.up λw h=>h.less (ndC y (jy numI ch (lz loose its) E its.length g)::(O++(RM++(KM++ [ndC b1 {}]))))) j1 f1 g2 r1 h λit I b5 b4 d0 c1 b9 c9 c8 b6 d2 w a1 a2 a3 a4 a5 s6 s7 a8 a9 h=>?_
      exact k5 it I b5 b4 d0 c1 b9 c9 c8 b6 d2 w a1 a2 a3 a4 a5 s6 s7 a8 a9 h.re
     ·refine ag rfl (aa ⟨_,Sat.ld h (.head _) (i:=3) rfl,af (by simpa using U) ?_⟩)
      rw[s8]
      refine tB (d:=d - 1) (most:=2) (by omega) (by omega) (by omega) (o2 m4) p3 ⟨(f1.dp j1).1,by have:=(f1.dp j1).2;omega⟩ h λw l I m5 m6 c3 n3 o3 q5 m3 m1 i4 e9 i8 j0 l5 h=>⟨_,_,_,_,_,_,rfl,?_⟩
      have h:Sat σ w (ndC V (kf none 0 0)::bC b q n c I::ndC y (jy numI ch (lz loose its) E its.length g)::(O++(RM++(KM++(c3++(m3++(m1++([]++(ndC b1 {}::L))))))))):=h.re
      refine Sat.st h (k:=0) rfl (by show 7<10;decide) trivial rfl λw h=>?_
      have h:Sat σ w (ndC V (kf n3 l.length o3)::bC b q n c I::ndC y (jy numI ch (lz loose its) E its.length g)::(O++(RM++(KM++(c3++(m3++(m1++([]++(ndC b1 {}::L))))))))):=h
      refine k5 l I n3 o3 q5 m3 m1 m5 m6 c3 [] w i4.ab i4.ne i4.len i4.sm (λg2=>?_) (f1.trans e9) i8 j0 l5 h.re
      exact absurd (by rw[f1.1];exact g2) U
    ·have g3:(loose && decide (0<d))=false:=by simpa using g3
     rw[g3]
     refine af rfl ?_
     refine pZ p3 h λw ls I m5 m6 c3 i1 h5 i0 r9 f2 PK g4 e9 i8 j0 l5 s3 h=>⟨_,_,_,_,_,_,_,_,_,_,_,_,_,_,_,_,_,rfl,?_⟩
     obtain⟨r4,r7,r8⟩:=r6 ls g4
     refine Sat.bx h λf4 w h=>?_
     have h:Sat σ w (ndC f4 {}::(c3++(f2++(PK++(bC b q n c I::(ndC V (kf none 0 0)::ndC y (jy numI ch (lz loose its) E its.length g)::(O++(RM++(KM++(ndC b1 {}::L)))))))))):=h
     refine h.st10 0 {} (({kind:=6}:NH).nd none 0 i1 h5 i0) λw h=>?_
     have h:Sat σ w (ndC f4 (({kind:=6}:NH).nd none 0 i1 h5 i0)::(c3++(f2++(PK++(bC b q n c I::(ndC V (kf none 0 0)::ndC y (jy numI ch (lz loose its) E its.length g)::(O++(RM++(KM++(ndC b1 {}::L)))))))))):=h
     refine Sat.st h (k:=0) rfl (by show 8<10;decide) trivial rfl λw h=>?_
     refine Sat.st h (k:=0) rfl (by show 9<10;decide) trivial rfl λw h=>h.tk λw h=>?_
     rw[lS0] at h
     have h:Sat σ w (ndC f4 (({kind:=6,s:=1,e:=ls.length}:NH).nd none 0 i1 h5 i0)::(c3++(f2++(PK++(bC b q n c I::(ndC V (kf none 0 0)::ndC y (jy numI ch (lz loose its) E its.length g)::(O++(RM++(KM++(ndC b1 {}::L)))))))))):=h
     have m2:=r3 ls i1 h5 i0 r9 f2 PK g4 j0 l5 s3
     revert h m2
     generalize ({kind:=6,s:=1,e:=ls.length}:NH).nd none 0 i1 h5 i0=u
     intro h m2
     refine h.ldB10 u (.head _) ?_
     refine Sat.buildN h u λf6 w h=>?_
     have h:Sat σ w (ndC f6 u::ndC f4 u::(c3++(f2++(PK++(bC b q n c I::(ndC V (kf none 0 0)::ndC y (jy numI ch (lz loose its) E its.length g)::(O++(RM++(KM++(ndC b1 {}::L)))))))))):=h
     have h:Sat σ w (ndC V (kf none 0 0)::ndC f6 u::ndC f4 u::(c3++(f2++(PK++(bC b q n c I::(ndC y (jy numI ch (lz loose its) E its.length g)::(O++(RM++(KM++(ndC b1 {}::L)))))))))):=h.re
     refine Sat.st h (k:=0) rfl (by show 7<10;decide) trivial rfl λw h=>?_
     have h:Sat σ w (ndC V (kf (kE f6) 1 1)::ndC f6 u::ndC f4 u::(c3++(f2++(PK++(bC b q n c I::(ndC y (jy numI ch (lz loose its) E its.length g)::(O++(RM++(KM++(ndC b1 {}::L)))))))))):=h
     have n0:(lz loose its||decide (2<=([BN.para ls]:List BN).length))=lz loose its:=by simp
     have h:Sat σ w (bC b q n c I::ndC y (jy numI ch (lz loose its) E its.length g)::ndC V (kf (kE f6) 1 1)::(O++(RM++(KM++(c3++([ndC f6 u]++((f2++PK)++([ndC f4 u]++(ndC b1 {}::L))))))))):=h.re
     have:=k6 [.para ls] I (kE f6) 1 u.C.toList [ndC f6 u] (f2++PK) m5 m6 c3 [ndC f4 u] w r4 (by simp) (by simp) r7 (λ_=>⟨⟨ls,[],rfl⟩,r8 _,λ_=>rfl⟩) (f1.trans e9.kp) (by rw[pF];exact i8) (by rw[lM,lM];exact m2.one) slN (by rw[n0];exact h)
     rw[pF] at this
     exact this
  have n0:lz loose []=false:=by cases loose<;>rfl
  exact r5 (m+1) [] none 0 [] none 0 [] [] [] I w (by simp) trivial trivial (λ_=>trivial) (λ_ _=>rfl) (k0.trans e9.kp) SlS.nil .nil (Sl.nil 10 ae) (by rw[n0];exact h)
 have k2: ∀(ch:UInt8) (num:Nat) (numI:Int) (f0:BS) (w:World),MkP odd ch num numI->s.kp f0->Sat σ w (bC b q n c f0::ndC y (jy numI ch false none 0 0)::ndC b1 {}::L)->aB.k2 R (kE b) (d:Nat) odd b1 y w:=by
  intro ch num numI f0 w e3 k0 h
  refine eX (k:=2) (h9.up λw h=>h.less [ndC y (jy numI ch false none 0 0),ndC b1 {}]) (by omega) (by omega) h λw r I hr e9 h=>⟨_,rfl,?_⟩
  have W:=k0.trans e9.kp
  refine bp (λ_=>aa ⟨_,Sat.ld h (.head _) (i:=3) rfl,bp (λU=>aa ⟨_,Sat.ld h (.head _) (i:=4) rfl,?_⟩) λU=>?_⟩) λ_=>k3 ch num numI false I w e3 (λ_ _=>rfl) W h
  ·refine k3 ch num numI _ I w e3 (λ_ c4=>?_) W h
   have:decide (I.deep>0)=true:=by
    have e:I.deep=s.deep:=W.2
    rw[e];exact c4
   rw[this];rfl
  ·refine k3 ch num numI true I w e3 (λg2 _=>?_) W h
   rw[W.1,g2] at U
   cases U
 have k1: ∀(e4:UInt8) (w:World),(if odd then e4=43 else e4=45)->Sat σ w (ndC y (jy (-1) e4 false none 0 0)::ndC b1 {}::bC b q n c s::L)->aB.k1 R (kE b) (d:Nat) odd b1 y w:=by
  intro e4 w c5 h
  have h:Sat σ w (bC b q n c s::ndC y (jy (-1) e4 false none 0 0)::ndC b1 {}::L):=h.re
  have p1:Rd σ (ndC y (jy (-1) e4 false none 0 0)::ndC b1 {}::L) q n vs:=h9.up λw h=>h.less [ndC y (jy (-1) e4 false none 0 0),ndC b1 {}]
  refine eX (k:=2) p1 (by omega) (by omega) h λw r f0 hr p5 h=>⟨_,rfl,?_⟩
  refine bp (λ_=>?_) λ_=>k2 e4 0 (-1) f0 w ⟨?_,?_,by omega⟩ p5.kp h
  ·refine eX (k:=30) p1 (by omega) (by omega) h λw num I t4 e9 h=>⟨_,rfl,?_⟩
   refine Sat.st h (k:=1) rfl (by show 3<10;decide) trivial rfl λw h=>?_
   refine Sat.st h (k:=1) rfl (by show 4<10;decide) trivial rfl λw h=>?_
   have h:Sat σ w (bC b q n c I::ndC y (jy ((num:Nat):Int) 46 false none 0 0)::ndC b1 {}::L):=h
   have W:=p5.kp.trans e9.kp
   cases odd with
   |true=>
    refine ag rfl ?_
    refine Sat.st h (k:=1) rfl (by show 4<10;decide) trivial rfl λw h=>?_
    exact k2 41 num num I w ⟨.inr rfl,rfl,by omega⟩ W h
   |false=>exact af rfl (k2 46 num num I w ⟨.inr rfl,rfl,by omega⟩ W h)
  ·cases odd
   ·exact .inl c5
   ·exact .inl c5
  ·cases odd
   ·have c5:e4=45:=c5
    subst c5;rfl
   ·have c5:e4=43:=c5
    subst c5;rfl
 cases odd with
 |true=>
  refine ag rfl ?_
  refine Sat.st h (k:=0) rfl (by show 4<10;decide) trivial rfl λw h=>?_
  exact k1 43 w rfl h
 |false=>exact af rfl (k1 45 w rfl h)
theorem Dn: ∀d,d<=3->xW d:=by
 intro d
 induction d using Nat.strongRecOn with
 |_ d g=>
  intro hd
  refine EO hd (λy=>tB (by omega) (by omega) (by omega) (g (d - 1) (by omega) (by omega))) λy=>Gh (by omega) λE=>g (d - 1 - 1) (by omega) (by omega)
theorem A9 {d most:Nat}(hd:d<=3)(y:1<=most)(g:most<=4):zq d most:=tB hd y g (Dn d hd)
def nH (R:EP)(w:World):Prop:=
 box w #[hV false,hV false,hV false,hV false,hV false,hV false,hV false,hV false,hV false,hV false] fp λb1 c3=>
 stV c3 (hZ b1 0) (hV false) λb8=>
 stV b8 (hZ b1 1) (hV false) λc4=>
 stV c4 (hZ b1 2) (hV false) λc2=>
 stV c2 (hZ b1 3) (hV false) λb6=>
 stV b6 (hZ b1 4) (hV false) λb7=>
 stV b7 (hZ b1 5) (hV false) λc1=>
 stV c1 (hZ b1 6) (hV false) λb9=>
 stV b9 (hZ b1 7) (hV false) λb4=>
 stV b4 (hZ b1 8) (hV false) λb5=>
 stV b5 (hZ b1 9) (hV false) λg=>
 ∃y,g.cell? (hZ b1 0)=some (hV y)/\
 ∃b3,g.cell? (hZ b1 1)=some (hV b3)/\
 ∃a6,g.cell? (hZ b1 2)=some (hV a6)/\
 ∃I,g.cell? (hZ b1 3)=some (hV I)/\
 ∃O,g.cell? (hZ b1 4)=some (hV O)/\
 ∃U,g.cell? (hZ b1 5)=some (hV U)/\
 ∃E,g.cell? (hZ b1 6)=some (hV E)/\
 ∃W,g.cell? (hZ b1 7)=some (hV W)/\
 ∃V,g.cell? (hZ b1 8)=some (hV V)/\
 ∃a7,g.cell? (hZ b1 9)=some (hV a7)/\
 R (hQ (.agg #[hV y,hV b3,hV a6,hV I,hV O,hV U,hV E,hV W,hV V,hV a7])) g
theorem nH.sound {R w}(h:nH R w):callE P ny #[] R w:=
 cE Tryz.func15 Tryz.call15 h

theorem yE (h:Sat σ w L)(g: ∀w,Sat σ w L->R (hQ (optV Fh)) w):callE P ny #[] R w:=by
 refine nH.sound ?_
 refine Sat.bx h λb1 w h=>?_
 repeat (first|refine aa ?_|refine h.tk λw h=>?_|refine⟨_,h.ldA,?_⟩|refine⟨_,_,_,h.ldA,?_⟩|refine h.stA 0 λw h=>?_|refine h.stA 1 λw h=>?_|refine h.stA 2 λw h=>?_|refine h.stA 3 λw h=>?_|refine h.stA 4 λw h=>?_|refine h.stA 5 λw h=>?_|refine h.stA 6 λw h=>?_|refine h.bx λb0 w h=>?_)
 exact g _ h.tail

theorem Hx {q:OA}{n c:Nat}(g:R (hQ (hV (decide (n<=300)))) w):callE P qE #[hT q n c] R w:=by
 refine om.sound ?_
 have e:decide (((n:Nat):Int)<=300)=decide (n<=300):=by rw[decide_eq_decide];omega
 unfold om
 rw[e];exact g
theorem GC {l:List BN}(I:okS l)(hd:dsS l)(y:l≠ [])(W:(aE l).length<=1300)(O:dpT l<=12):(bG [10] (aE l).tail).length<1000000:=by
 have E:=zZ.2.1 l I hd y
 have g:(aE l).tail.length<=1300:=by rw[lP3];omega
 have V:=vz (n:=768) (aE l).tail λs hs=>by have:=(E.ch s hs).2;omega
 have U:=lJ2 769 g
 omega
def FD (σ:Out)(L:List ai)(R:Ending->World->Prop)(fl:Bool):Prop:=
 ∀w (l:List BN) (g:OA) (y:Nat) (us:List Value) (RM KM:List ai),E2 3 4 ⟨0,0,fl,0⟩ l->NDs (lM 1 l) us KM->Sl 10 ae g l.length y us RM->Sat σ w (RM++(KM++L))->R (hQ (.tuple #[hX (bs (bG [10] (aE l).tail)),(({kind:=1}:NH).nd none 0 g l.length y).V])) w
theorem Cq {l:List BN}{s:BS}(g:E2 3 4 s l):okS l/\dsS l/\l≠ []/\(aE l).length<=1300/\dpT l<=12:=by
 obtain⟨y,I⟩:=Bg.2.1 l g.ab
 obtain⟨E,O⟩:=GA y g.len g.sm
 exact⟨y,I,g.ne,E,O⟩
theorem Dk {b1:Nat}{l:List BN}{fl:Bool}{a6:OA}{a7:Nat}{I:List ai}{E:OA}{g:Nat}{us:List Value}{RM KM X:List ai}(c1:FD σ L R fl)(U:E2 3 4 ⟨0,0,fl,0⟩ l)(b7:SlS a6 a7 (aE l).tail I)(b9:NDs (lM 1 l) us KM)(b8:Sl 10 ae E l.length g us RM)(h:Sat σ w (ndC b1 {}::(I++(RM++(KM++(X++L)))))):
 callE P jm #[hT a6 (aE l).tail.length a7,hX (hP #[10])] (λe c3=> ∃(W:BA),e= hQ (hX W)/\st10 c3 b1 {a0:=1,q7:=E,n7:=l.length,c7:=g} λO=>ldB10 O b1 λb4=>R (hQ (.tuple #[hX W,b4.V])) O) w:=by
 obtain⟨c5,c8,b5,c2,c4⟩:=Cq U
 have c9:=GC c5 c8 b5 c2 c4
 have b3:((hP #[10]):ByteArray)=bs [10]:=rfl
 rw[b3]
 refine xa (L:=ndC b1 {}::(I++(RM++(KM++(X++L))))) (SArg.ofSl b7 λy b6=> .tail _ (lD1 _ b6)) h (by rw[lP3];omega) (by omega) (by simp) λw h=>⟨_,rfl,?_⟩
 refine h.st10 0 {} (({kind:=1}:NH).nd none 0 E l.length g) λw h=>?_
 have h:Sat σ w (ndC b1 (({kind:=1}:NH).nd none 0 E l.length g)::(I++(RM++(KM++(X++L))))):=h
 refine h.ldB10 _ (.head _) ?_
 exact c1 w l E g us RM KM U b9 b8 (h.less (ndC b1 (({kind:=1}:NH).nd none 0 E l.length g)::(I++X)))
theorem Gz {q:OA}{n c:Nat}{vs:List UInt8}(E:BArg σ L q n vs)(b8:n<=300)(h:Sat σ w L)(W:FD σ L R true):callE P o7 #[hT q n c] R w:=by
 refine pf.sound ?_
 refine Sat.bx h λb1 w h=>?_
 refine Sat.bx h λg w h=>?_
 have h:Sat σ w (bC g q n c ⟨0,0,true,0⟩::(ndC b1 {}::L)):=h
 have y:Rd σ L q n vs:=⟨E,by omega⟩
 refine A9 (d:=3) (most:=4) (by omega) (by omega) (by omega) (y.up λw h=>h.less [ndC b1 {}]) ⟨by show (0:Int)<=0;omega,by show (0:Int)+((3:Nat):Int)<=100;omega⟩ h λw l s' a6 a7 b5 b6 b4 us RM KM I b7 O U V h=>⟨_,_,_,_,_,_,rfl,?_⟩
 exact Dk (X:= [bC g q n c s']) W I O U V h.re
namespace fM
def bl2 (R:EP)(Xa:Nat->Nat->Int->Int->WP)(a7 b3:Nat)(a6 g:Int)(w:World):Prop:=
 br (decide (g<a6))
 (tk w λy=>
 ∃O E b5,y.cell? (hZ a7 7)=some (hT O E b5)/\
 0<=g/\g<(E:Int)/\
 aA O λb8=>
 ldA10 y (b8.add (Int.toNat g*10)) λc1=>
 ∃I U b4,y.cell? (hZ b3 7)=some (hT I U b4)/\
 0<=g/\g<(U:Int)/\
 aA I λb9=>
 ldA10 y (b9.add (Int.toNat g*10)) λb6=>
 callE P kJ #[c1.V,b6.V] (λe b7=> ∃W,e= hQ (hV W)/\
 br (!W)
 (False)
 (Xa a7 b3 a6 (i64.wrap (g+1)) b7)) y)
 (R (hQ (hV true)) w)
def l2 (R:EP)(E I:Nat)(y g:Int)(w:World):Prop:=
 ∀X:Nat->Nat->Int->Int->WP,(∀E I y g w,bl2 R X E I y g w->X E I y g w)->X E I y g w
def bl1 (R:EP)(W:Nat->Nat->Int->Int->WP)(y V:Nat)(U O:Int)(w:World):Prop:=
 br (decide (O<U))
 (False)
 (∃E g I,w.cell? (hZ y 7)=some (hT E g I)/\
 l2 R y V (g:Int) 0 w)
def l1 (R:EP)(E I:Nat)(y g:Int)(w:World):Prop:=
 ∀X:Nat->Nat->Int->Int->WP,(∀E I y g w,bl1 R X E I y g w->X E I y g w)->X E I y g w
def k1 (R:EP)(y O:Nat)(w:World):Prop:=
 ∃E g I,w.cell? (hZ y 6)=some (hT E g I)/\
 l1 R y O (g:Int) 0 w
end fM
def fM (R:EP)(g7:Int)(g2 g0:BA)(g6:Int)(f2:BA)(e5:Bool)(d3:OA)(c9 e2:Nat)(d2:OA)(c4 c8:Nat)(h1 e7 e9:Int)(f5 g5:BA)(f3:Int)(f6:BA)(f1:Bool)(c3:OA)(d0 d1:Nat)(e0:OA)(e1 c5:Nat)(g4 e4:Int)(w:World):Prop:=
 box w (N10.C {a0:=g7,a1:=g2,a2:=g0,a3:=g6,a4:=f2,a5:=e5,q6:=d3,n6:=c9,c6:=e2,q7:=d2,n7:=c4,c7:=c8,a8:=h1,a9:=e7}) ae λb1 h3=>
 box h3 (N10.C {a0:=e9,a1:=f5,a2:=g5,a3:=f3,a4:=f6,a5:=f1,q6:=c3,n6:=d0,c6:=d1,q7:=e0,n7:=e1,c7:=c5,a8:=g4,a9:=e4}) ae λy g=>
 ∃c1,g.cell? (hZ b1 0)=some (hY c1)/\
 ∃b9,g.cell? (hZ y 0)=some (hY b9)/\
 br (c1 !=b9)
 (False)
 (∃b8,g.cell? (hZ b1 1)=some (hX b8)/\
 ∃c2,g.cell? (hZ y 1)=some (hX c2)/\
 br (!(b8.toList==c2.toList))
 (False)
 (∃b7,g.cell? (hZ b1 2)=some (hX b7)/\
 ∃a6,g.cell? (hZ y 2)=some (hX a6)/\
 br (!(b7.toList==a6.toList))
 (False)
 (∃b4,g.cell? (hZ b1 3)=some (hY b4)/\
 ∃a7,g.cell? (hZ y 3)=some (hY a7)/\
 br (b4 !=a7)
 (False)
 (∃V,g.cell? (hZ b1 4)=some (hX V)/\
 ∃b6,g.cell? (hZ y 4)=some (hX b6)/\
 br (!(V.toList==b6.toList))
 (False)
 (∃b5,g.cell? (hZ b1 5)=some (hV b5)/\
 ∃W,g.cell? (hZ y 5)=some (hV W)/\
 br (!(b5==W))
 (False)
 (∃f0 U e3,g.cell? (hZ b1 6)=some (hT f0 U e3)/\
 ∃e8 E g3,g.cell? (hZ y 6)=some (hT e8 E g3)/\
 br ((U:Int) !=(E:Int))
 (False)
 (∃f4 I g1,g.cell? (hZ b1 7)=some (hT f4 I g1)/\
 ∃h2 O e6,g.cell? (hZ y 7)=some (hT h2 O e6)/\
 br ((I:Int) !=(O:Int))
 (False)
 (fM.k1 R b1 y g))))))))
theorem fM.sound {R x0_0 x0_1 x0_2 x0_3 x0_4 x0_5 x0_6q x0_6n x0_6c x0_7q x0_7n x0_7c x0_8 x0_9 x1_0 x1_1 x1_2 x1_3 x1_4 x1_5 x1_6q x1_6n x1_6c x1_7q x1_7n x1_7c x1_8 x1_9 w}(h:fM R x0_0 x0_1 x0_2 x0_3 x0_4 x0_5 x0_6q x0_6n x0_6c x0_7q x0_7n x0_7c x0_8 x0_9 x1_0 x1_1 x1_2 x1_3 x1_4 x1_5 x1_6q x1_6n x1_6c x1_7q x1_7n x1_7c x1_8 x1_9 w):callE P kJ #[(N10.V {a0:=x0_0,a1:=x0_1,a2:=x0_2,a3:=x0_3,a4:=x0_4,a5:=x0_5,q6:=x0_6q,n6:=x0_6n,c6:=x0_6c,q7:=x0_7q,n7:=x0_7n,c7:=x0_7c,a8:=x0_8,a9:=x0_9}),(N10.V {a0:=x1_0,a1:=x1_1,a2:=x1_2,a3:=x1_3,a4:=x1_4,a5:=x1_5,q6:=x1_6q,n6:=x1_6n,c6:=x1_6c,q7:=x1_7q,n7:=x1_7n,c7:=x1_7c,a8:=x1_8,a9:=x1_9})] R w:=
 aG [(21,.no),(7,.mk [46,66] (fM.k1 R)),(43,.lp [46,66,1347,1367] (fM.bl1 R) λg=> [(9,.no),(83,.dr (rpN [0,6,15,21,4,9,13,19,24,28,30])),(179,.no),(243,.no)]),(87,.lp [46,66,1707,1727] (fM.bl2 R) λXa=> [(83,.dr (rpN [0,6,15,21,4,9,13,19,24,28,32,33])),(179,.no)])] Tryz.func12 Tryz.call12 h

def HJ (u v:N10)(T S:List ai):Prop:=
 ∀(σ:Out) (R:Ending->World->Prop) (L:List ai) (w:World),Sat σ w (T++(S++L))->(∀w,Sat σ w (T++(S++L))->R (hQ (hV true)) w)->callE P kJ #[u.V,v.V] R w
inductive uP:List Value->List Value->List ai->List ai->Prop where
 |nil:uP [] [] [] []
 |cons {u v:N10} {us vs:List Value} {T S T' S':List ai}:HJ u v T S->uP us vs T' S'->uP (u.C.toList++us) (v.C.toList++vs) (T++T') (S++S')
theorem wx {h0:NH}{q U qa E:OA}{n c g ca I:Nat}{us vs:List Value}{RM KM a7 b7:List ai}(c9:uP us vs KM b7)(d3:Sl 10 ae q n c us RM)(d2:Sl 10 ae U n g vs a7)(f6:n<1073741824):
 HJ (h0.nd qa ca q n c) (h0.nd E I U n g) (RM++KM) (a7++b7):=by
 intro σ R L w h b4
 refine fM.sound ?_
 refine Sat.bx h λb1 w h=>?_
 refine Sat.bx h λO w h=>?_
 have h:Sat σ w ((O,cel (h0.nd E I U n g).C.toList ae)::(b1,cel (h0.nd qa ca q n c).C.toList ae)::((RM++KM)++((a7++b7)++L))):=h
 have y:(b1,cel (h0.nd qa ca q n c).C.toList ae)∈((O,cel (h0.nd E I U n g).C.toList ae)::(b1,cel (h0.nd qa ca q n c).C.toList ae)::((RM++KM)++((a7++b7)++L))):= .tail _ (.head _)
 have V:(O,cel (h0.nd E I U n g).C.toList ae)∈((O,cel (h0.nd E I U n g).C.toList ae)::(b1,cel (h0.nd qa ca q n c).C.toList ae)::((RM++KM)++((a7++b7)++L))):= .head _
 refine⟨_,Sat.ld h y (i:=0) rfl,_,Sat.ld h V (i:=0) rfl,af (by simp) ?_⟩
 refine⟨_,Sat.ld h y (i:=1) rfl,_,Sat.ld h V (i:=1) rfl,af (by simp) ?_⟩
 refine⟨_,Sat.ld h y (i:=2) rfl,_,Sat.ld h V (i:=2) rfl,af (by simp) ?_⟩
 refine⟨_,Sat.ld h y (i:=3) rfl,_,Sat.ld h V (i:=3) rfl,af (by simp) ?_⟩
 refine⟨_,Sat.ld h y (i:=4) rfl,_,Sat.ld h V (i:=4) rfl,af (by simp) ?_⟩
 refine⟨_,Sat.ld h y (i:=5) rfl,_,Sat.ld h V (i:=5) rfl,af (by simp) ?_⟩
 refine⟨_,_,_,Sat.ld h y (i:=6) rfl,_,_,_,Sat.ld h V (i:=6) rfl,af (by simp) ?_⟩
 refine⟨_,_,_,Sat.ld h y (i:=7) rfl,_,_,_,Sat.ld h V (i:=7) rfl,af (by simp) ?_⟩
 refine⟨_,_,_,Sat.ld h y (i:=6) rfl,?_⟩
 intro Y e7
 refine e7 _ _ _ _ _ (af rfl ⟨_,_,_,Sat.ld h y (i:=7) rfl,?_⟩)
 intro X e0
 have c4:=d3.1
 have f5:=d2.1
 have e5: ∀(b5 b6:List Value) (K c3:List ai),uP b5 b6 K c3-> ∀(a6 W:List Value) (D b8:List ai) (j:Nat) w,a6++b5=us->W++b6=vs->a6.length=j*10->W.length=j*10->
  Sat σ w ((O,cel (h0.nd E I U n g).C.toList ae)::(b1,cel (h0.nd qa ca q n c).C.toList ae)::(RM++(a7++((D++K)++((b8++c3)++L)))))->
  (∀w,Sat σ w ((O,cel (h0.nd E I U n g).C.toList ae)::(b1,cel (h0.nd qa ca q n c).C.toList ae)::(RM++(a7++((D++K)++((b8++c3)++L)))))->R (hQ (hV true)) w)->X b1 O (n:Int) (j:Nat) w:=by
  intro b5 b6 K c3 c9
  induction c9 with
  |nil=>
   intro a6 W D b8 j w b9 hv d0 d1 h b4
   have:j=n:=by rw[<-b9] at c4;simp at c4;omega
   exact e0 _ _ _ _ _ (af (by simp;omega) (b4 w h))
  | @cons u v b5 b6 T S T' S' g1 g2 ih=>
   intro a6 W D b8 j w b9 hv d0 d1 h b4
   have e4:u.C.toList.length=10:=rfl
   have f1:j<n:=by rw[<-b9] at c4;simp only[lA0,e4] at c4;omega
   refine e0 _ _ _ _ _ (ag (by simp;omega) (h.tk λw h=>?_))
   refine⟨_,_,_,Sat.ld h (.tail _ (.head _)) (i:=7) rfl,by omega,by show (j:Int)<(n:Int);omega,?_⟩
   have e6:=d3
   obtain⟨_,_,⟨rfl,hz,_,_⟩|⟨c8,sp,rfl,rfl,f3⟩⟩:=e6
   ·omega
   have e3:=d2
   obtain⟨_,_,⟨rfl,hz,_,_⟩|⟨c5,c1,rfl,rfl,f0⟩⟩:=e3
   ·omega
   refine aa ?_
   simp only[lK0,lC0,lO0]
   have e8:us++sp=a6++(u.C.toList++(b5++sp)):=by rw[<-b9];simp only[lD0]
   have e9:vs++c1=W++(v.C.toList++(b6++c1)):=by rw[<-hv];simp only[lD0]
   refine Sat.ldA10 h u (b:=c8) (pre:=a6) (suf:=b5++sp) (e:=ae) (by rw[<-e8];simp) d0 ?_
   refine⟨_,_,_,Sat.ld h (.head _) (i:=7) rfl,by omega,by show (j:Int)<(n:Int);omega,aa ?_⟩
   simp only[lK0,lC0,lO0]
   refine Sat.ldA10 h v (b:=c5) (pre:=W) (suf:=b6++c1) (e:=ae) (by rw[<-e9];simp) d1 ?_
   generalize f4:((O,cel (h0.nd E I (kE c5) n g).C.toList ae):ai)=k3 at h b4 ih⊢
   generalize f2:((b1,cel (h0.nd qa ca (kE c8) n c).C.toList ae):ai)=k1 at h b4 ih⊢
   have h:Sat σ w (T++(S++(k3::k1::([(c8,cel (us++sp) ae)]++([(c5,cel (vs++c1) ae)]++((D++T')++((b8++S')++L))))))):=h.re
   refine g1 σ _ _ w h λw h=>⟨_,rfl,af rfl ?_⟩
   rw[aN (by omega)]
   refine ih (a6++u.C.toList) (W++v.C.toList) (D++T) (b8++S) (j+1) w (by rw[<-b9];simp only[lD0]) (by rw[<-hv];simp only[lD0]) (by rw[lA0,d0,lU3];rfl) (by rw[lA0,d1,lU3];rfl) h.re (λw h=>b4 w h.re)
 exact e5 us vs KM b7 c9 [] [] [] [] 0 w rfl rfl rfl rfl h.re (λw h=>b4 w (Sat.less [(O,cel (h0.nd E I U n g).C.toList ae),(b1,cel (h0.nd qa ca q n c).C.toList ae)] h))
theorem G9 {xs:List ND}{us:List Value}{M:List ai}(h:NDs xs us M): ∀ {vs:List Value} {N:List ai},NDs xs vs N->uP us vs M N:=by
 induction h with
 |nil=>intro vs N g;cases g;exact .nil
 | @cons h0 ks xs qa ca q n c us us' RM KM XM a1 a2 a3 a4 ih1 ih2=>
  intro vs N g
  cases g with
  | @cons _ _ _ qa2 ca2 q2 n2 c2 vs vs' RM2 KM2 XM2 b1 b2 b3 b4=>
   have e:n2=n:=by have O:=a2.len;have y:=b2.len;have E:=a3.1;have I:=b3.1;omega
   subst e
   exact .cons (wx (ih1 b2) a3 b3 a1) (ih2 b4)
theorem F1 {x:ND}{u v:N10}{M N:List ai}(I:NodeDt x u M)(hv:NodeDt x v N)(h:Sat σ w (M++(N++L)))(E: ∀w,Sat σ w (M++(N++L))->R (hQ (hV true)) w):callE P kJ #[u.V,v.V] R w:=by
 obtain⟨h0,b6,qa,ca,q,n,c,us,RM,KM,rfl,rfl,rfl,a1,a2,a3⟩:=I
 obtain⟨b9,U,O,a6,b4,y,b5,vs,W,a7,e,rfl,rfl,b1,b2,g⟩:=hv
 obtain⟨rfl,rfl⟩:=ND.mk.inj e
 have e:y=n:=by have c3:=a2.len;have b7:=b2.len;have b8:=a3.1;have c1:=g.1;omega
 subst e
 exact wx (G9 a2 b2) a3 g a1 σ R L w h E

theorem HA {l:List BN}{y:OA}{g:Nat}{us:List Value}{RM KM:List ai}(E:NDs (lM 1 l) us KM)(I:Sl 10 ae y l.length g us RM)(O:l.length<=4):NodeDt (.mk {kind:=1} (lM 1 l)) (({kind:=1}:NH).nd none 0 y l.length g) (RM++KM):=
 ⟨_,_,none,0,y,l.length,g,us,RM,KM,rfl,rfl,rfl,by omega,E,I⟩
theorem CV {ec:ai}(e2:Bh ec){q:OA}{n c:Nat}{vs:List UInt8}(c2:ec∈L)(c3:BArg σ L q n vs)(h:Sat σ w L)(V: ∀w,Sat σ w L->R (hQ (hV true)) w):callE P pO #[hT q n c] R w:=by
 refine mB.sound ?_
 refine bp (λ_=>V w h) λ_=>?_
 refine Hx ⟨_,rfl,?_⟩
 refine bp (λ_=>V w h) λW=>?_
 have W:n<=300:=by simpa using W
 refine Gz c3 W h λw l a7 I us RM KM b7 c8 c4 h=>⟨_,_,_,_,_,_,_,_,_,_,_,_,_,_,_,rfl,?_⟩
 obtain⟨E,c9,c5,e6,e0⟩:=Cq b7
 have O:=HA c8 c4 b7.len
 refine Sat.bx h λg w h=>?_
 have h:Sat σ w (ndC g {}::(RM++(KM++L))):=h
 refine h.st10 0 {} (({kind:=1}:NH).nd none 0 a7 l.length I) λw h=>h.tk λw h=>?_
 have h:Sat σ w (ndC g (({kind:=1}:NH).nd none 0 a7 l.length I)::(RM++(KM++L))):=h
 revert O h
 generalize (({kind:=1}:NH).nd none 0 a7 l.length I)=v
 intro O h
 refine h.ldB10 v (.head _) ?_
 refine yE h λe8 b3=>⟨_,_,_,_,_,_,_,_,_,_,rfl,h.same b3 (.head _) (.head _) 10,?_⟩
 have e3:=(A2 (op:=Fh) rfl rfl rfl rfl e2 E c9 c5 e6 e0).2
 refine Az e3 (L:=ndC g v::(RM++(KM++L))) (.tail _ (lB0 _ (lB0 _ c2))) b3 λe4 u M s e xs d0 d1 b4=>yy ⟨b3.same b4 (.head _) (lB0 _ (.head _)) 10,?_⟩
 subst d1
 refine HG d0 (by rw[da];exact⟨λd3=>by simp at d3,A0.2.1 l E 1⟩) σ _ _ e4 b4 λb8 e7 a6 b6 y=>vh ⟨b4.same y (lB0 _ (.head _)) (lB0 _ (lB0 _ (.head _))) 10,?_⟩
 have y:Sat σ b8 ((RM++KM)++(a6++(M++(ndC g v::L)))):=y.re
 refine FG O (by rw[gp];exact⟨by decide,B0.2.1 l E 1⟩) σ _ _ b8 y λe5 e9 b9 c1 U=>vh ?_
 rw[D5 E] at b6
 have U:Sat σ e5 (a6++(b9++((RM++KM)++(M++(ndC g v::L))))):=U.re
 refine F1 b6 c1 U λe1 d2=>⟨_,rfl,V e1 ?_⟩
 exact d2.less (a6++(b9++((RM++KM)++(M++ [ndC g v]))))
end Go.Proofs.YtendaipfdnhnaaaGreatDoor

namespace Go.Proofs.YtendaipfdnhnaaaGreatDoor
open Go.Proofs Go.ChangeShapes Go.WideShapes
theorem o8 {g y:World}(h:Sat (yG g) y (fZ g)){b:Nat}(hb:b<g.heap.size):y.heap[b]? =g.heap[b]? :=by
 have E:(b,g.heap[b])∈fZ g:=lU1.2 ⟨(g.heap[b],b),lZ2.2 (by simp[hb]),rfl⟩
 rw[h.at_ _ E,lP2 hb]
theorem yw {g E:World}(h:Sat (yG g) E (fZ g)){p:MemPlace}(y:p.block<g.heap.size):g.sameAt E p:=by
 cases p with
 |cell b o=>exact World.cell?_of_block (w:=g) (o8 h y)
 |map b=>exact o8 h y
theorem zj {g y:World}(h:Sat (yG g) y (fZ g)){a:Addr}{v:Value}(hc:g.cell? a=some v):y.cell? a=some v:=by
 have hb:a.block<g.heap.size:=by
  rcases lN4 a.block g.heap.size with I|E
  ·exact I
  ·have:g.heap[a.block]? =none:=lO4 E
   unfold World.cell? at hc
   rw[this] at hc;cases hc
 rw[<-hc]
 unfold World.cell?
 rw[o8 h hb]
theorem u8_of {n:Int}(h:(Lit.int .u8 n).wf=true): ∃m:Nat,m<256/\n=(m:Int):=by
 have g:(decide (IntKind.u8.min<=n) && decide (n<=IntKind.u8.max))=true:=h
 simp only[lL1,decide_eq_true_eq] at g
 have a:IntKind.u8.min=0:=rfl
 have b:IntKind.u8.max=255:=rfl
 rw[a,b] at g
 exact⟨n.toNat,by omega,by omega⟩
end Go.Proofs.YtendaipfdnhnaaaGreatDoor


namespace Go.Proofs.YtendaipfdnhnaaaGreatDoor
open Go.Proofs Go.ChangeShapes Go.WideShapes Go.Deep
theorem Cg {P:Program}{H:Type}{enc:TypeId × Value->H}{y:World}{r:Reach}{b0:Nat}{t e:TypeId}{v:Value}{d:DataW H}{b8:List MemPlace}(ht:P.underlying t=some (.slice e))(a6:P.underlying e=some (.int .u8))(hc:P.cellsOf e=1)(I:Value.okWide P y r b0 t v)(h:DataW.Trod enc P y 0 (λ_=>true) true t v d b8): ∃q n c vs,v= hT q n c/\BArg (yG y) (fZ y) q n vs:=by
 obtain⟨a0,len,O,rfl⟩:=okWide_slice ht I
 obtain⟨c2,b9⟩:=h
 rcases open_slice1 ht hc b9 with ⟨g,a7⟩|⟨a,c1,c3,m,n,V,D,c5,g,_,c9,c8,hz,a7,E⟩
 ·simp[Value.cells] at g
  obtain⟨rfl,rfl,rfl⟩:=g
  exact⟨none,0,0,[],rfl,⟨rfl,λi hi=>by simp at hi⟩⟩
 ·simp[Value.cells] at g
  obtain⟨rfl,rfl,rfl⟩:=g
  simp only[if_true] at hz
  refine⟨some a,len,O,(List.range len).map λi=>match V i with| .int _ n=>UInt8.ofNat n.toNat|_=>0,rfl,⟨by simp,λi hi=>?_⟩⟩
  simp only[lS0,List.length_range] at hi
  refine⟨a,rfl,λw b6=>?_⟩
  obtain⟨b5,b7⟩:=E i (by omega)
  obtain⟨k,U,_,b3⟩:=DataW.trod_int a6 b7
  have b4:V i= .int .u8 k:=(List.cons.inj U).1
  obtain⟨j,c4,rfl⟩:=u8_of b3
  rw[zj b6 b5,List.getElem_map,List.getElem_range,b4]
  simp
  omega
end Go.Proofs.YtendaipfdnhnaaaGreatDoor


namespace Go.Proofs.YtendaipfdnhnaaaGreatDoor
open Go.Proofs Go.ChangeShapes Go.WideShapes Go.RowKit
def Eb:DataW Unit->Bool
 | .agg [.lit (.string a),.lit (.string b)]=>decide (b.length<=10) && !b.isEmpty
 |_=>false
theorem Ea {r:DataW Unit}(h:Eb r=true): ∃a b,r= .agg [.lit (.string a),.lit (.string b)]/\b.length<=10/\b≠ []:=by
 unfold Eb at h
 split at h
 ·rename_i a b
  refine⟨a,b,rfl,?_,?_⟩
  ·simp at h;exact h.1
  ·simp at h;exact h.2
 ·exact absurd h (by simp)
theorem xF {P:Program}{TA TB TS:TypeId}{N:String}{E:World}{O:List (DataW Unit)}(d1:P.underlying TA=some (.array 12 TB))(c9:P.underlying TB=some (.array 2 TS))(U:P.underlying TS=some .string)(c1:P.cellsOf TB=2)(c2:P.cellsOf TS=1)(b5:P.globalNamed N=some 1)(d3:(P.globals[1]?).map (·.type)=some TA){l:List (String × DataW Unit)}{d:DataW Unit}(e8:l.filter (λx=>x.1==N)= [(N,d)])(d0:d= .agg O)(b9:O.all Eb=true)(c4:d.handleName?.isNone=true)(h:laidMetH P l E): ∃c,Bh c/\c∈fZ E:=by
 have h:=h.filter (λx=>x.1==N)
 rw[e8,MakeChecks.laidMetH_plain _ _ _ (by simp[c4])] at h
 obtain⟨f5,⟨g,t,cs,e9,p,q,e3,ht,hv,hd,_,_⟩,_,_⟩:=h
 obtain rfl:=Option.some.inj (b5.symm.trans e3)
 obtain rfl:=Option.some.inj (d3.symm.trans ht)
 obtain⟨xs,m,_,ex,f2,f0,c5⟩:=DataW.trod_array d1 hd
 have b3:d= .agg (xs.map (·.1)):=(Prod.mk.inj ex).1
 rw[d0] at b3
 have em:=DataW.agg.inj b3
 simp only[World.var?,b5,Option.bind_some] at hv
 split at hv
 case h_2=>cases hv
 rename_i c ty e6 hb
 cases hv
 have V:1<E.heap.size:=(lA4.1 hb).1
 refine⟨(1,E.heap[1]),⟨cs,ty,e6,?_,?_⟩,lU1.2 ⟨(E.heap[1],1),lZ2.2 (by simp[V]),rfl⟩⟩
 ·rw[lP2 V] at hb;exact congrArg (Prod.mk 1) (Option.some.inj hb)
 intro i hi
 have b8:=c5 i hi
 rw[c1,lI0 (by omega)] at b8
 obtain⟨b4,f4,_,e5,_,f3,I⟩:=DataW.trod_array c9 b8
 have h0:=I 0 (by decide)
 have b7:=I 1 (by decide)
 rw[c2,lI0 (by omega)] at h0 b7
 obtain⟨s0,e7,f6,_⟩:=DataW.trod_string U h0
 obtain⟨y,e4,e2,_⟩:=DataW.trod_string U b7
 have hr:Eb xs[i].1=true:=by
  refine(lD2.1 b9) _ ?_
  rw[em]
  exact lF5 (lQ1 _)
 obtain⟨a,a6,b6,d2,c8⟩:=Ea hr
 rw[e5] at b6
 have c3:=DataW.agg.inj b6
 have a7:b4[1].1= .lit (.string a6):=by
  have:=congrArg (λl:List (DataW Unit)=>l[1]?) c3
  simp only[lY2,lS5,lF2,lI0 (show 1<b4.length by omega),lI3,lG1] at this
  exact this
 rw[e2] at a7
 have t1:y.data.toList=a6:=by simpa using a7
 refine⟨s0.data.toList,y.data.toList,?_,?_,by rw[t1];exact d2,by rw[t1];exact c8⟩
 ·have:(((((cs.toList.drop (i*2)).take 2).drop (0*1)).take 1)[0]?)=some (hX s0):=by rw[e7];rfl
  rw[show bs s0.data.toList=s0 from rfl,<-lQ2]
  have e:i*2=2*i:=lP6 _ _
  rw[e] at this
  simpa using this
 ·have:(((((cs.toList.drop (i*2)).take 2).drop (1*1)).take 1)[0]?)=some (hX y):=by rw[e4];rfl
  rw[show bs y.data.toList=y from rfl,<-lQ2]
  have e:i*2=2*i:=lP6 _ _
  rw[e] at this
  simpa using this
end Go.Proofs.YtendaipfdnhnaaaGreatDoor

