/- Part 5 of the proof of the law FnWrapped: for every input the law returns true, the inputs read as they did, and memory that was there is as it was; under the conditions of the given row alone. -/
import Derived.Laws.IdiomStrings
import Derived.Test.YtendaipfdnhnaaaGreatDoorA4
set_option linter.all false
open Go.IntKind(i64)
open ByteArray renaming mk→hP
open List renaming replicate→hN
namespace Go.Proofs.YtendaipfdnhnaaaGreatDoor
open Go.Proofs Go.IntWalk Go.RowKit
set_option maxRecDepth 20000
variable {σ:Out} {w:World} {L L':List ai} {R:Ending->World->Prop} {G:List UInt8->List Inl} {op:Opt}

def wB (c:UInt8):Bool:=(97<=c && c<=122)||128<=c
structure WdP (s:List UInt8):Prop where
 ne:s≠ []
 by_: ∀c∈s,wB c=true
 len:s.length<=100
 opn: ∀(b:Nat) (p:PS) (A B:List UInt8) (k:Nat),1<=k->(A++32::(hN k 42++(s++B))).length<1000000->
  qD b p (A++32::(hN k 42++(s++B))) (A.length+1) (.func (.func dV) #[] #[]) [] (some (.emphP (hN k 42) true false 0 (k:Nat),A.length+1,A.length+1+k)) (λp'=>p'=p)
 cls: ∀(b:Nat) (p:PS) (A B:List UInt8) (k:Nat),1<=k->(B= []\/ ∃B',B=32::B'\/B=10::B')->(A++(s++(hN k 42++B))).length<1000000->
  qD b p (A++(s++(hN k 42++B))) (A.length+s.length) (.func (.func dV) #[] #[]) [] (some (.emphP (hN k 42) false true 0 (k:Nat),A.length+s.length,A.length+s.length+k)) (λp'=>p'=p)
structure DsP (d:List UInt8):Prop where
 ne:d≠ []
 by_: ∀c∈d,zJ c=true/\lS c=false
 len:d.length<=200
inductive Tk where
 |wd (s:List UInt8)
 |sp
 |nl
 |em (k:Nat) (s:List UInt8)
 |cd (s:List UInt8)
 |lk (s d:List UInt8)
 |es (s:List UInt8)
def Tk.B:Tk->List UInt8
 | .wd s=>s
 | .sp=> [32]
 | .nl=> [10]
 | .em k s=>hN k 42++(s++hN k 42)
 | .cd s=>96::(s++ [96])
 | .lk s d=>91::(s++93::40::(d++ [41]))
 | .es s=>92::42::s
def tkB (l:List Tk):List UInt8:=l.flatMap Tk.B
theorem cw (t:Tk)(l:List Tk):tkB (t::l)=t.B++tkB l:=rfl
theorem uE (a b:List Tk):tkB (a++b)=tkB a++tkB b:=by simp[tkB]
def okT:Nat->List Tk->Prop
 |n,[]=>n=2
 |n,.wd s::r=>n≠2/\WdP s/\okT 2 r
 |n,.sp::r=>n=2/\okT 1 r
 |n,.nl::r=>n=2/\okT 0 r
 |n,.em k s::r=>n=1/\WdP s/\(k=1\/k=2)/\okT 2 r
 |n,.cd s::r=>n=1/\WdP s/\okT 2 r
 |n,.lk s d::r=>n=1/\WdP s/\DsP d/\okT 2 r
 |n,.es s::r=>n=1/\WdP s/\okT 2 r
def fl (p:List UInt8):List Inl:=if p= [] then [] else [.plain p]
def Tk.raw:Tk->List Inl
 | .em k s=> [.emphP (hN k 42) true false 0 (k:Nat),.plain s,.emphP (hN k 42) false true 0 (k:Nat)]
 | .cd s=> [.code s]
 | .lk s d=> [.link [.plain s] d [] 0 false]
 |_=> [.soft]
def Tk.out:Tk->List Inl
 | .em k s=> [if k=1 then .emph [42] [.plain s] else .strong [42,42] [.plain s]]
 | .cd s=> [.code s]
 | .lk s d=> [.link [.plain s] d [] 0 false]
 |_=> [.soft]
def tkG (f:Tk->List Inl):List UInt8->List Tk->List Inl
 |p,[]=>fl p
 |p,.wd s::r=>tkG f (p++s) r
 |p,.sp::r=>tkG f (p++ [32]) r
 |p,.es s::r=>fl p++ .esc [42]::tkG f s r
 |p,.nl::r=>fl p++(f .nl++tkG f [] r)
 |p,.em k s::r=>fl p++(f (.em k s)++tkG f [] r)
 |p,.cd s::r=>fl p++(f (.cd s)++tkG f [] r)
 |p,.lk s d::r=>fl p++(f (.lk s d)++tkG f [] r)
structure De where
 out:List Inl
 p:List UInt8
 m:Nat
 a:List UInt8
 d:List UInt8
def De.step (st:De)(c:UInt8):De:=
 if st.m=0 then
  if c=42 then ⟨st.out,st.p,1,[],[]⟩ else if c=96 then ⟨st.out,st.p,5,[],[]⟩ else if c=91 then ⟨st.out,st.p,6,[],[]⟩ else if c=92 then ⟨st.out,st.p,9,[],[]⟩
  else if c=10 then ⟨st.out++(fl st.p++ [.soft]),[],0,[],[]⟩ else ⟨st.out,st.p++ [c],0,[],[]⟩
 else if st.m=1 then if c=42 then ⟨st.out,st.p,3,[],[]⟩ else ⟨st.out,st.p,2,[c],[]⟩
 else if st.m=2 then if c=42 then ⟨st.out++(fl st.p++ [.emph [42] [.plain st.a]]),[],0,[],[]⟩ else ⟨st.out,st.p,2,st.a++ [c],[]⟩
 else if st.m=3 then if c=42 then ⟨st.out,st.p,4,st.a,[]⟩ else ⟨st.out,st.p,3,st.a++ [c],[]⟩
 else if st.m=4 then ⟨st.out++(fl st.p++ [.strong [42,42] [.plain st.a]]),[],0,[],[]⟩
 else if st.m=5 then if c=96 then ⟨st.out++(fl st.p++ [.code st.a]),[],0,[],[]⟩ else ⟨st.out,st.p,5,st.a++ [c],[]⟩
 else if st.m=6 then if c=93 then ⟨st.out,st.p,7,st.a,[]⟩ else ⟨st.out,st.p,6,st.a++ [c],[]⟩
 else if st.m=7 then ⟨st.out,st.p,8,st.a,[]⟩
 else if st.m=8 then if c=41 then ⟨st.out++(fl st.p++ [.link [.plain st.a] st.d [] 0 false]),[],0,[],[]⟩ else ⟨st.out,st.p,8,st.a,st.d++ [c]⟩
 else ⟨st.out++(fl st.p++ [.esc [c]]),[],0,[],[]⟩
def wE (raw:List UInt8):List Inl:=
 let st:=raw.foldl De.step ⟨[],[],0,[],[]⟩
 st.out++fl st.p
theorem wH {c:UInt8}(h:wB c=true):c≠42/\c≠96/\c≠91/\c≠92/\c≠10/\c≠93/\c≠41/\c≠32/\c≠9:=by
 refine⟨?_,?_,?_,?_,?_,?_,?_,?_,?_⟩<;>(rintro rfl;revert h;decide)
theorem G7 {out:List Inl}: ∀ {s p:List UInt8},(∀c∈s,wB c=true)->s.foldl De.step ⟨out,p,0,[],[]⟩=⟨out,p++s,0,[],[]⟩
 | [],p,_=>by simp
 |c::s,p,h=>by
  obtain⟨y,E,O,I,g,_⟩:=wH (h c (.head _));have e:De.step ⟨out,p,0,[],[]⟩ c=⟨out,p++ [c],0,[],[]⟩:=by simp[De.step,y,E,O,I,g]
  rw[lX1,e,G7 λd hd=>h d (.tail _ hd)];simp
theorem H6 {out:List Inl}{p:List UInt8}: ∀ {s a:List UInt8},(∀c∈s,wB c=true)->s.foldl De.step ⟨out,p,2,a,[]⟩=⟨out,p,2,a++s,[]⟩
 | [],a,_=>by simp
 |c::s,a,h=>by
  have e:De.step ⟨out,p,2,a,[]⟩ c=⟨out,p,2,a++ [c],[]⟩:=by simp[De.step,(wH (h c (.head _))).1]
  rw[lX1,e,H6 λd hd=>h d (.tail _ hd)];simp
theorem H5 {out:List Inl}{p:List UInt8}: ∀ {s a:List UInt8},(∀c∈s,wB c=true)->s.foldl De.step ⟨out,p,3,a,[]⟩=⟨out,p,3,a++s,[]⟩
 | [],a,_=>by simp
 |c::s,a,h=>by
  have e:De.step ⟨out,p,3,a,[]⟩ c=⟨out,p,3,a++ [c],[]⟩:=by simp[De.step,(wH (h c (.head _))).1]
  rw[lX1,e,H5 λd hd=>h d (.tail _ hd)];simp
theorem H4 {out:List Inl}{p:List UInt8}: ∀ {s a:List UInt8},(∀c∈s,wB c=true)->s.foldl De.step ⟨out,p,5,a,[]⟩=⟨out,p,5,a++s,[]⟩
 | [],a,_=>by simp
 |c::s,a,h=>by
  have e:De.step ⟨out,p,5,a,[]⟩ c=⟨out,p,5,a++ [c],[]⟩:=by simp[De.step,(wH (h c (.head _))).2.1]
  rw[lX1,e,H4 λd hd=>h d (.tail _ hd)];simp
theorem H3 {out:List Inl}{p:List UInt8}: ∀ {s a:List UInt8},(∀c∈s,wB c=true)->s.foldl De.step ⟨out,p,6,a,[]⟩=⟨out,p,6,a++s,[]⟩
 | [],a,_=>by simp
 |c::s,a,h=>by
  have e:De.step ⟨out,p,6,a,[]⟩ c=⟨out,p,6,a++ [c],[]⟩:=by simp[De.step,(wH (h c (.head _))).2.2.2.2.2.1]
  rw[lX1,e,H3 λd hd=>h d (.tail _ hd)];simp
theorem H2 {out:List Inl}{p a:List UInt8}: ∀ {s d:List UInt8},(∀c∈s,c≠41)->s.foldl De.step ⟨out,p,8,a,d⟩=⟨out,p,8,a,d++s⟩
 | [],d,_=>by simp
 |c::s,d,h=>by
  have e:De.step ⟨out,p,8,a,d⟩ c=⟨out,p,8,a,d++ [c]⟩:=by simp[De.step,h c (.head _)]
  rw[lX1,e,H2 λx g=>h x (.tail _ g)];simp
theorem G6 {out:List Inl}{p s:List UInt8}{k:Nat}(hs:WdP s)(E:k=1\/k=2):(Tk.em k s).B.foldl De.step ⟨out,p,0,[],[]⟩=⟨out++(fl p++Tk.out (.em k s)),[],0,[],[]⟩:=by
 obtain⟨c,t,rfl⟩:=lD1 hs.ne;have hc:=(wH (hs.by_ c (.head _))).1;have ht: ∀d∈t,wB d=true:=λd hd=>hs.by_ d (.tail _ hd)
 rcases E with rfl|rfl
 ·have e:(Tk.em 1 (c::t)).B=42::c::(t++ [42]):=rfl
  have g:De.step ⟨out,p,0,[],[]⟩ 42=⟨out,p,1,[],[]⟩:=rfl;have y:De.step ⟨out,p,1,[],[]⟩ c=⟨out,p,2,[c],[]⟩:=by simp[De.step,hc]
  rw[e,lX1,lX1,g,y,lJ2,H6 ht];rfl
 ·have e:(Tk.em 2 (c::t)).B=42::42::((c::t)++ [42,42]):=rfl
  have g:De.step ⟨out,p,0,[],[]⟩ 42=⟨out,p,1,[],[]⟩:=rfl;have y:De.step ⟨out,p,1,[],[]⟩ 42=⟨out,p,3,[],[]⟩:=rfl;rw[e,lX1,lX1,g,y,lJ2,H5 hs.by_];rfl
theorem rX: ∀(l:List Tk) (n:Nat) (out:List Inl) (p:List UInt8),okT n l-> ∃O p',(tkB l).foldl De.step ⟨out,p,0,[],[]⟩=⟨O,p',0,[],[]⟩/\O++fl p'=out++tkG Tk.out p l
 | [],n,out,p,_=>⟨out,p,rfl,rfl⟩
 | .wd s::r,n,out,p,h=>by
  obtain⟨o,q,g,y⟩:=rX r 2 out (p++s) h.2.2;refine⟨o,q,?_,y⟩;rw[cw,lJ2]
  show (tkB r).foldl De.step (s.foldl De.step _)=_
  rw[G7 h.2.1.by_];exact g
 | .sp::r,n,out,p,h=>by
  obtain⟨o,q,g,y⟩:=rX r 1 out (p++ [32]) h.2;exact⟨o,q,g,y⟩
 | .nl::r,n,out,p,h=>by
  obtain⟨o,q,g,y⟩:=rX r 0 (out++(fl p++ [.soft])) [] h.2;refine⟨o,q,g,?_⟩;rw[y];simp[tkG,Tk.out]
 | .em k s::r,n,out,p,h=>by
  obtain⟨o,q,g,y⟩:=rX r 2 (out++(fl p++Tk.out (.em k s))) [] h.2.2.2;refine⟨o,q,?_,?_⟩
  ·rw[cw,lJ2,G6 h.2.1 h.2.2.1];exact g
  ·rw[y];simp[tkG]
 | .cd s::r,n,out,p,h=>by
  obtain⟨o,q,g,y⟩:=rX r 2 (out++(fl p++ [.code s])) [] h.2.2;refine⟨o,q,?_,?_⟩
  ·have e:(Tk.cd s).B=96::(s++ [96]):=rfl
   have E:De.step ⟨out,p,0,[],[]⟩ 96=⟨out,p,5,[],[]⟩:=rfl;rw[cw,lJ2,e,lX1,E,lJ2,H4 h.2.1.by_];exact g
  ·rw[y];simp[tkG,Tk.out]
 | .lk s d::r,n,out,p,h=>by
  obtain⟨o,q,g,y⟩:=rX r 2 (out++(fl p++ [.link [.plain s] d [] 0 false])) [] h.2.2.2;refine⟨o,q,?_,?_⟩
  ·have e:(Tk.lk s d).B=91::(s++93::40::(d++ [41])):=rfl
   have E:De.step ⟨out,p,0,[],[]⟩ 91=⟨out,p,6,[],[]⟩:=rfl;have I: ∀a,De.step ⟨out,p,6,a,[]⟩ 93=⟨out,p,7,a,[]⟩:=λ_=>rfl
   have V: ∀a,De.step ⟨out,p,7,a,[]⟩ 40=⟨out,p,8,a,[]⟩:=λ_=>rfl
   have hd: ∀c∈d,c≠41:=λc hc U=>by
    have:=(h.2.2.1.by_ c hc).1;rw[U] at this;exact absurd this (by decide)
   rw[cw,lJ2,e,lX1,E,lJ2,H3 h.2.1.by_,lX1,lX1,I,V,lJ2,H2 hd];exact g
  ·rw[y];simp[tkG,Tk.out]
 | .es s::r,n,out,p,h=>by
  obtain⟨o,q,g,y⟩:=rX r 2 (out++(fl p++ [.esc [42]])) s h.2.2;refine⟨o,q,?_,?_⟩
  ·have e:(Tk.es s).B=92::42::s:=rfl
   have E:De.step ⟨out,p,0,[],[]⟩ 92=⟨out,p,9,[],[]⟩:=rfl;have I:De.step ⟨out,p,9,[],[]⟩ 42=⟨out++(fl p++ [.esc [42]]),[],0,[],[]⟩:=rfl;rw[cw,lJ2,e,lX1,lX1,E,I,G7 h.2.1.by_];exact g
  ·rw[y];simp[tkG]
theorem AB {l:List Tk}{n:Nat}(h:okT n l):wE (tkB l)=tkG Tk.out [] l:=by
 obtain⟨o,q,g,y⟩:=rX l n [] [] h;unfold wE;rw[g];exact y
def st0:List (List Nat):= [[],[],[],[],[]]
theorem qj {g:List Inl}{st:List (List Nat)}{t:Inl}{ts:List Inl}(h:t.plain? =none\/ ∃s,t= .plain s):dX g st (t::ts)=dX (g++ [t]) st ts:=by
 cases t<;>first|rfl|(rcases h with h|⟨s,h⟩<;>simp[Inl.plain?] at h)
theorem Bl (g:List Inl)(st:List (List Nat))(p:List UInt8)(ts:List Inl):dX g st (fl p++ts)=dX (g++fl p) st ts:=by
 unfold fl;split
 ·simp
 ·exact qj (.inr ⟨_,rfl⟩)
theorem go_em {g:List Inl}{k:Nat}{s:List UInt8}{ts:List Inl}(W:k=1\/k=2):dX g st0 (Tk.raw (.em k s)++ts)=dX (g++Tk.out (.em k s)) st0 ts:=by
 have y:(g++ [Inl.emphP (hN k 42) true false g.length (k:Nat)]++ [.plain s])[g.length]? =some (.emphP (hN k 42) true false g.length (k:Nat)):=by
  rw[lD0,lI0 (lE1 _),lQ1];rfl
 have O:DS false true (k:Nat) (g++ [Inl.emphP (hN k 42) true false g.length (k:Nat)]++ [.plain s]) g.length=true:=by
  unfold DS;rw[y];rfl
 have E:(g++ [Inl.emphP (hN k 42) true false g.length (k:Nat)]++ [Inl.plain s]).drop (g.length+1)= [Inl.plain s]:=by
  rw[lE5 (by simp)]
 have I:(g++ [Inl.emphP (hN k 42) true false g.length (k:Nat)]++ [Inl.plain s]).take g.length=g:=by
  rw[lD0,lF5 rfl]
 have V: [[],[g.length],[],[],[]].map (AY g.length)=st0:=by
  simp[AY,st0]
 have a6:dX g st0 (Tk.raw (.em k s)++ts)=dX (g++ [Inl.emphP (hN k 42) true false g.length (k:Nat)]++ [.plain s]) [[],[g.length],[],[],[]] (.emphP (hN k 42) false true 0 (k:Nat)::ts):=by
  rcases W with rfl|rfl<;>rfl
 rw[a6];rcases W with rfl|rfl
 ·have U:ki 1 false true ((1:Nat):Int) 1 [42] (g++ [Inl.emphP [42] true false g.length ((1:Nat):Int)]++ [.plain s]) [[],[g.length],[],[],[]]=([],g++ [.emph [42] [.plain s]],st0):=by
   have y:=y;have O:=O;have E:=E;have I:=I
   simp only[hN] at y O E I;unfold ki;simp only[lL5,List.getD_cons_zero,lT4,lW5,lT0,List.find?_cons,O,y];simp[ki,E,I,V]
  show dX _ _ (.emphP [42] false true 0 ((1:Nat):Int)::ts)=_
  rw[dX];simp only[if_true,show ue (([42]:List UInt8).headD 0)=1 from rfl,lE0];rw[show hN 1 (42:UInt8)= [42] from rfl,U];simp[Tk.out]
 ·have U:ki 1 false true ((2:Nat):Int) 2 [42,42] (g++ [Inl.emphP [42,42] true false g.length ((2:Nat):Int)]++ [.plain s]) [[],[g.length],[],[],[]]=([],g++ [.strong [42,42] [.plain s]],st0):=by
   have y:=y;have O:=O;have E:=E;have I:=I
   simp only[hN] at y O E I;unfold ki;simp only[lL5,List.getD_cons_zero,lT4,lW5,lT0,List.find?_cons,O,y];simp[ki,E,I,V]
  show dX _ _ (.emphP [42,42] false true 0 ((2:Nat):Int)::ts)=_
  rw[dX];simp only[if_true,show ue (([42,42]:List UInt8).headD 0)=1 from rfl,show ([42,42]:List UInt8).length=2 from rfl];rw[show hN 2 (42:UInt8)= [42,42] from rfl,U];simp[Tk.out]
theorem yb: ∀(l:List Tk) (n:Nat) (p:List UInt8) (g:List Inl),okT n l->dX g st0 (tkG Tk.raw p l)=g++tkG Tk.out p l
 | [],n,p,g,_=>by
  show dX g st0 (fl p)=_
  have:=Bl g st0 p [];rw[lG0] at this;rw[this];rfl
 | .wd s::r,n,p,g,h=>yb r 2 (p++s) g h.2.2
 | .sp::r,n,p,g,h=>yb r 1 (p++ [32]) g h.2
 | .nl::r,n,p,g,h=>by
  show dX g st0 (fl p++([.soft]++tkG Tk.raw [] r))=g++(fl p++([.soft]++tkG Tk.out [] r))
  rw[Bl,lU2,qj (.inl rfl),yb r 0 [] _ h.2];simp
 | .em k s::r,n,p,g,h=>by
  show dX g st0 (fl p++(Tk.raw (.em k s)++tkG Tk.raw [] r))=g++(fl p++(Tk.out (.em k s)++tkG Tk.out [] r))
  rw[Bl,go_em h.2.2.1,yb r 2 [] _ h.2.2.2];simp
 | .cd s::r,n,p,g,h=>by
  show dX g st0 (fl p++([.code s]++tkG Tk.raw [] r))=g++(fl p++([.code s]++tkG Tk.out [] r))
  rw[Bl,lU2,qj (.inl rfl),yb r 2 [] _ h.2.2];simp
 | .lk s d::r,n,p,g,h=>by
  show dX g st0 (fl p++([.link [.plain s] d [] 0 false]++tkG Tk.raw [] r))=g++(fl p++([.link [.plain s] d [] 0 false]++tkG Tk.out [] r))
  rw[Bl,lU2,qj (.inl rfl),yb r 2 [] _ h.2.2.2];simp
 | .es s::r,n,p,g,h=>by
  show dX g st0 (fl p++(.esc [42]::tkG Tk.raw s r))=g++(fl p++(.esc [42]::tkG Tk.out s r))
  rw[Bl,qj (.inl rfl),yb r 2 s _ h.2.2];simp
theorem Fc {l:List Tk}{n:Nat}(h:okT n l):yo (tkG Tk.raw [] l)=tkG Tk.out [] l:=by
 have:=yb l n [] [] h;rw[lT0] at this;exact this

theorem B4 {c:UInt8}(h:wB c=true):cO c=false/\lS c=false:=by
 have:=lF2.1 (show (List.range 256).all (λn=> !(wB (UInt8.ofNat n))||(!cO (UInt8.ofNat n) && !lS (UInt8.ofNat n)))=true by kernel_rfl) c.toNat (lY2.2 c.toNat_lt);rw[lA4,h] at this
 simpa using this
theorem HB {c:UInt8}(h:wB c=true)(o:Opt):kt o c= .nil:=by
 have g:c≠92/\c≠96/\c≠60/\c≠91/\c≠33/\c≠95/\c≠42/\c≠46/\c≠45/\c≠34/\c≠39/\c≠126/\c≠10/\c≠38/\c≠58:=by
  refine⟨?_,?_,?_,?_,?_,?_,?_,?_,?_,?_,?_,?_,?_,?_,?_⟩<;>(rintro rfl;revert h;decide)
 simp[kt,g]
theorem okT.last: ∀ {l:List Tk} {n:Nat},okT n l->l≠ []-> ∃m d,tkB l=m++ [d]/\cO d=false/\d≠35
 | [],n,_,h=>absurd rfl h
 |t::r,n,h,_=>by
  by_cases hr:r= []
  ·subst hr;have g: ∀ {s:List UInt8},WdP s-> ∃m d,s=m++ [d]/\cO d=false/\d≠35:=by
    intro s hs;rcases lY1 s with h0|⟨m,d,h0⟩
    ·exact absurd h0 hs.ne
    ·rw[lK2] at h0;exact⟨m,d,h0,(B4 (hs.by_ d (by rw[h0];simp))).1,by have:=hs.by_ d (by rw[h0];simp);rintro rfl;revert this;decide⟩
   cases t with
   |wd s=>
    obtain⟨m,d,e,hd⟩:=g h.2.1;exact⟨m,d,by rw[cw];simp[Tk.B,tkB];exact e,hd⟩
   |sp=>exact absurd h.2 (by simp[okT])
   |nl=>exact absurd h.2 (by simp[okT])
   |em k s=>
    obtain⟨j,rfl⟩: ∃j,k=j+1:=⟨k - 1,by have:=h.2.2.1;omega⟩
    refine⟨hN (j+1) 42++(s++hN j 42),42,?_,by decide,by decide⟩;rw[cw];simp[Tk.B,tkB,lC5]
   |cd s=>exact⟨96::s,96,by rw[cw];simp[Tk.B,tkB],by decide,by decide⟩
   |lk s d=>exact⟨91::(s++93::40::d),41,by rw[cw];simp[Tk.B,tkB],by decide,by decide⟩
   |es s=>
    obtain⟨m,d,e,hd⟩:=g h.2.1;exact⟨92::42::m,d,by rw[cw];simp[Tk.B,tkB];exact e,hd⟩
  ·have I: ∃y,okT y r:=by
    cases t with
    |wd s=>exact⟨_,h.2.2⟩
    |sp=>exact⟨_,h.2⟩
    |nl=>exact⟨_,h.2⟩
    |em k s=>exact⟨_,h.2.2.2⟩
    |cd s=>exact⟨_,h.2.2⟩
    |lk s d=>exact⟨_,h.2.2.2⟩
    |es s=>exact⟨_,h.2.2⟩
   obtain⟨y,E⟩:=I;obtain⟨m,d,e,hd⟩:=okT.last E hr;exact⟨t.B++m,d,by rw[cw,e,lD0],hd⟩
theorem okT.next {r:List Tk}(h:okT 2 r):tkB r= []\/ ∃B',tkB r=32::B'\/tkB r=10::B':=by
 cases r with
 |nil=>exact .inl rfl
 |cons t r=>
  cases t with
  |sp=>exact .inr ⟨tkB r,.inl rfl⟩
  |nl=>exact .inr ⟨tkB r,.inr rfl⟩
  |wd s=>exact absurd rfl h.1
  |em k s=>exact absurd h.1 (by decide)
  |cd s=>exact absurd h.1 (by decide)
  |lk s d=>exact absurd h.1 (by decide)
  |es s=>exact absurd h.1 (by decide)
theorem okT.first {r:List Tk}(h:okT 0 r): ∃s g,r= .wd s::g/\WdP s:=by
 cases r with
 |nil=>exact absurd h (by simp[okT])
 |cons t r=>
  cases t with
  |wd s=>exact⟨s,r,rfl,h.2.1⟩
  |sp=>exact absurd h.1 (by decide)
  |nl=>exact absurd h.1 (by decide)
  |em k s=>exact absurd h.1 (by decide)
  |cd s=>exact absurd h.1 (by decide)
  |lk s d=>exact absurd h.1 (by decide)
  |es s=>exact absurd h.1 (by decide)
theorem vZ {t:Inl}(ht:tL t=none)(h:Option UInt8):h=none\/tL t≠h:=by
 cases h with
 |none=>exact .inl rfl
 |some c=>exact .inr (by rw[ht];simp)
theorem qv {p:List UInt8}{h:Option UInt8}{ts:List Inl}(y:p≠ [])(g:oo none ts):oo h (fl p++ts):=by
 unfold fl;rw[if_neg y];exact⟨vZ rfl h,g⟩
theorem lM: ∀(l:List Tk) (n:Nat) (p:List UInt8) (h:Option UInt8),okT n l->(n=1->p≠ [])->(h=none\/p≠ []\/n=2)->oo h (tkG Tk.raw p l)
 | [],n,p,h,_,_,_=>by
  show oo h (fl p)
  unfold fl;split
  ·trivial
  ·exact⟨vZ rfl h,trivial⟩
 | .wd s::r,n,p,h,hok,_,_=>lM r 2 (p++s) h hok.2.2 (by simp) (.inr (.inr rfl))
 | .sp::r,n,p,h,hok,_,_=>lM r 1 (p++ [32]) h hok.2 (by simp) (.inr (.inl (by simp)))
 | .nl::r,n,p,h,hok,_,_=>by
  have y:=lM r 0 [] none hok.2 (by simp) (.inl rfl)
  show oo h (fl p++(.soft::tkG Tk.raw [] r))
  by_cases g:p= []
  ·subst g;exact⟨vZ rfl h,y⟩
  ·exact qv g ⟨.inl rfl,y⟩
 | .em k s::r,n,p,h,hok,g,_=>by
  have y:=lM r 2 [] (tL (.emphP (hN k 42) false true 0 (k:Nat))) hok.2.2.2 (by simp) (.inr (.inr rfl))
  exact qv (g hok.1) ⟨.inl rfl,⟨vZ rfl _,⟨.inl rfl,y⟩⟩⟩
 | .cd s::r,n,p,h,hok,g,_=>qv (g hok.1) ⟨.inl rfl,lM r 2 [] none hok.2.2 (by simp) (.inl rfl)⟩
 | .lk s d::r,n,p,h,hok,g,_=>qv (g hok.1) ⟨.inl rfl,lM r 2 [] none hok.2.2.2 (by simp) (.inl rfl)⟩
 | .es s::r,n,p,h,hok,g,_=>qv (g hok.1) ⟨.inl rfl,lM r 2 s none hok.2.2 (by simp) (.inl rfl)⟩
theorem nH {f:Tk->List Inl}: ∀(l:List Tk) (n:Nat) (p:List UInt8) (t:Inl),okT n l->t∈tkG f p l->(∃s,s≠ []/\s.length<=p.length+(tkB l).length/\t= .plain s)\/t= .esc [42]\/t∈f .nl\/(∃k s,WdP s/\(k=1\/k=2)/\t∈f (.em k s))\/(∃s,WdP s/\t∈f (.cd s))\/ ∃s d,WdP s/\DsP d/\t∈f (.lk s d)
 | [],n,p,t,_,h=>by
  have h:t∈fl p:=h;unfold fl at h;split at h
  ·cases h
  ·rename_i I;obtain rfl:=lN0.1 h;exact .inl ⟨p,I,by omega,rfl⟩
 | .wd s::r,n,p,t,hok,h=>by
  rcases nH r 2 (p++s) t hok.2.2 h with ⟨u,y,g,E⟩|h
  ·exact .inl ⟨u,y,by rw[cw,lA0];simp[Tk.B] at g⊢;omega,E⟩
  ·exact .inr h
 | .sp::r,n,p,t,hok,h=>by
  rcases nH r 1 (p++ [32]) t hok.2 h with ⟨u,y,g,E⟩|h
  ·exact .inl ⟨u,y,by rw[cw,lA0];simp[Tk.B] at g⊢;omega,E⟩
  ·exact .inr h
 | .es s::r,n,p,t,hok,h=>by
  have h:t∈fl p++ .esc [42]::tkG f s r:=h
  rcases lP0.1 h with h|h
  ·unfold fl at h;split at h
   ·cases h
   ·rename_i I;obtain rfl:=lN0.1 h;exact .inl ⟨p,I,by omega,rfl⟩
  ·rcases lW0.1 h with rfl|h
   ·exact .inr (.inl rfl)
   ·rcases nH r 2 s t hok.2.2 h with ⟨u,y,g,E⟩|h
    ·exact .inl ⟨u,y,by rw[cw,lA0];simp[Tk.B] at g⊢;omega,E⟩
    ·exact .inr h
 | .nl::r,n,p,t,hok,h=>by
  have h:t∈fl p++(f .nl++tkG f [] r):=h;rcases lP0.1 h with h|h
  ·unfold fl at h;split at h
   ·cases h
   ·rename_i I;obtain rfl:=lN0.1 h;exact .inl ⟨p,I,by omega,rfl⟩
  ·rcases lP0.1 h with h|h
   ·exact .inr (.inr (.inl h))
   ·rcases nH r 0 [] t hok.2 h with ⟨u,y,g,E⟩|h
    ·exact .inl ⟨u,y,by rw[cw,lA0];simp[Tk.B] at g⊢;omega,E⟩
    ·exact .inr h
 | .em k s::r,n,p,t,hok,h=>by
  have h:t∈fl p++(f (.em k s)++tkG f [] r):=h;rcases lP0.1 h with h|h
  ·unfold fl at h;split at h
   ·cases h
   ·rename_i I;obtain rfl:=lN0.1 h;exact .inl ⟨p,I,by omega,rfl⟩
  ·rcases lP0.1 h with h|h
   ·exact .inr (.inr (.inr (.inl ⟨k,s,hok.2.1,hok.2.2.1,h⟩)))
   ·rcases nH r 2 [] t hok.2.2.2 h with ⟨u,y,g,E⟩|h
    ·exact .inl ⟨u,y,by rw[cw,lA0];simp[Tk.B] at g⊢;omega,E⟩
    ·exact .inr h
 | .cd s::r,n,p,t,hok,h=>by
  have h:t∈fl p++(f (.cd s)++tkG f [] r):=h;rcases lP0.1 h with h|h
  ·unfold fl at h;split at h
   ·cases h
   ·rename_i I;obtain rfl:=lN0.1 h;exact .inl ⟨p,I,by omega,rfl⟩
  ·rcases lP0.1 h with h|h
   ·exact .inr (.inr (.inr (.inr (.inl ⟨s,hok.2.1,h⟩))))
   ·rcases nH r 2 [] t hok.2.2 h with ⟨u,y,g,E⟩|h
    ·exact .inl ⟨u,y,by rw[cw,lA0];simp[Tk.B] at g⊢;omega,E⟩
    ·exact .inr h
 | .lk s d::r,n,p,t,hok,h=>by
  have h:t∈fl p++(f (.lk s d)++tkG f [] r):=h;rcases lP0.1 h with h|h
  ·unfold fl at h;split at h
   ·cases h
   ·rename_i I;obtain rfl:=lN0.1 h;exact .inl ⟨p,I,by omega,rfl⟩
  ·rcases lP0.1 h with h|h
   ·exact .inr (.inr (.inr (.inr (.inr ⟨s,d,hok.2.1,hok.2.2.1,h⟩))))
   ·rcases nH r 2 [] t hok.2.2.2 h with ⟨u,y,g,E⟩|h
    ·exact .inl ⟨u,y,by rw[cw,lA0];simp[Tk.B] at g⊢;omega,E⟩
    ·exact .inr h
theorem wf_tk {l:List Tk}{n:Nat}{p:List UInt8}(h:okT n l):wfE (tkG Tk.raw p l):=by
 intro s O U i m y;rcases nH l n p _ h y with ⟨u,_,_,h⟩|h|h|⟨k,u,_,I,h⟩|⟨u,_,h⟩|⟨u,d,_,_,h⟩
 ·cases h
 ·cases h
 ·simp[Tk.raw] at h
 ·have g:s=hN k 42/\m=((k:Nat):Int):=by
   simp only[Tk.raw,lW0,lH1,or_false] at h;rcases h with h|h|h
   ·injection h with h1 h2 h3 h4 h5;exact⟨h1,h5⟩
   ·cases h
   ·injection h with h1 h2 h3 h4 h5;exact⟨h1,h5⟩
  obtain⟨rfl,rfl⟩:=g;exact⟨by rcases I with rfl|rfl<;>simp,⟨42,.inl rfl,λx E=>(lW3.1 E).2⟩,by simp;omega,by omega,by omega⟩
 ·simp[Tk.raw] at h
 ·simp[Tk.raw] at h
theorem HR {l:List Tk}{n:Nat}{p:List UInt8}(h:okT n l): ∀t∈tkG Tk.out p l,∀s,t.plain? =some s->s≠ []:=by
 intro t ht s hs;rcases nH l n p _ h ht with ⟨u,g,_,rfl⟩|rfl|h|⟨k,u,_,y,h⟩|⟨u,_,h⟩|⟨u,d,_,_,h⟩
 ·simp[Inl.plain?] at hs;subst hs;exact g
 ·simp[Inl.plain?] at hs
 ·simp[Tk.out] at h;subst h;simp[Inl.plain?] at hs
 ·simp only[Tk.out,lN0] at h;subst h;split at hs<;>simp[Inl.plain?] at hs
 ·simp[Tk.out] at h;subst h;simp[Inl.plain?] at hs
 ·simp[Tk.out] at h;subst h;simp[Inl.plain?] at hs
theorem Cq {l:List Tk}{n:Nat}{p:List UInt8}(h:okT n l)(U:p.length+(tkB l).length<1000000):mu (tkG Tk.out p l):=by
 have y: ∀ts:List Inl,(∀t∈ts,sU t)->mu ts:=by
  intro ts
  induction ts with
  |nil=>intro _;rw[mu];trivial
  |cons t ts I=>intro h;rw[mu];exact⟨h t (.head _),I λx E=>h x (.tail _ E)⟩
 have one: ∀s:List UInt8,s.length<=100->mu [Inl.plain s]:=λs hs=>by
  rw[mu,sU,mu];exact⟨by omega,trivial⟩
 refine y _ λt ht=>?_
 rcases nH l n p _ h ht with ⟨u,g,O,rfl⟩|rfl|h|⟨k,u,g,V,h⟩|⟨u,g,h⟩|⟨u,d,g,hd,h⟩
 ·rw[sU];omega
 ·rw[sU];simp
 ·simp[Tk.out] at h;subst h;rw[sU];trivial
 ·simp only[Tk.out,lN0] at h;subst h;have:=one u g.len;split
  ·rw[sU];exact⟨by simp,by simp,this⟩
  ·rw[sU];exact⟨by simp,by simp,this⟩
 ·simp[Tk.out] at h;subst h;rw[sU];have:=g.len;omega
 ·simp[Tk.out] at h;subst h;rw[sU]
  have:=hd.len;exact⟨by omega,by simp,rfl,by simp,one u g.len⟩
theorem rN {q:List (List UInt8)}{t:Inl}{ts:List Inl}(h:t.plain? =none):eE q (t::ts)=rS q++t::eE [] ts:=by rw[eE,h]
theorem Bb (q:List (List UInt8))(p:List UInt8)(ts:List Inl):eE q (.plain p::ts)=eE (q++ [p]) ts:=rfl
theorem p7 {p:List UInt8}{t:Inl}{ts:List Inl}(ht:t.plain? =none):eE [] (fl p++(t::ts))=fl p++t::eE [] ts:=by
 by_cases g:p= []
 ·subst g
  show eE [] (t::ts)=_
  rw[rN ht];rfl
 ·have e:fl p= [.plain p]:=by simp[fl,g]
  rw[e,lU2,Bb,rN ht];simp[rS]
theorem lC: ∀(l:List Tk) (n:Nat) (p:List UInt8),okT n l->lD (tkG Tk.out p l)=tkG Tk.out p l
 | [],n,p,_=>by
  show lD (fl p)=fl p
  by_cases y:p= []
  ·subst y;rfl
  ·simp[fl,y,lD,eE,rS,Inl.plain?]
 | .wd s::r,n,p,h=>lC r 2 _ h.2.2
 | .sp::r,n,p,h=>lC r 1 _ h.2
 | .nl::r,n,p,h=>by
  have g:=lC r 0 [] h.2
  show eE [] (fl p++(.soft::tkG Tk.out [] r))=fl p++(.soft::tkG Tk.out [] r)
  rw[p7 rfl];unfold lD at g;rw[g]
 | .em k s::r,n,p,h=>by
  have g:=lC r 2 [] h.2.2.2;have y: ∀c:Prop,[Decidable c]->(if c then Inl.emph [42] [.plain s] else Inl.strong [42,42] [.plain s]).plain? =none:=by intro c _;split<;>rfl
  show eE [] (fl p++((if k=1 then Inl.emph [42] [.plain s] else .strong [42,42] [.plain s])::tkG Tk.out [] r))=fl p++((if k=1 then Inl.emph [42] [.plain s] else .strong [42,42] [.plain s])::tkG Tk.out [] r)
  rw[p7 (y _)];unfold lD at g;rw[g]
 | .cd s::r,n,p,h=>by
  have g:=lC r 2 [] h.2.2
  show eE [] (fl p++(.code s::tkG Tk.out [] r))=fl p++(.code s::tkG Tk.out [] r)
  rw[p7 rfl];unfold lD at g;rw[g]
 | .lk s d::r,n,p,h=>by
  have g:=lC r 2 [] h.2.2.2
  show eE [] (fl p++(.link [.plain s] d [] 0 false::tkG Tk.out [] r))=fl p++(.link [.plain s] d [] 0 false::tkG Tk.out [] r)
  rw[p7 rfl];unfold lD at g;rw[g]
 | .es s::r,n,p,h=>by
  have g:=lC r 2 s h.2.2
  show eE [] (fl p++(.esc [42]::tkG Tk.out s r))=fl p++(.esc [42]::tkG Tk.out s r)
  rw[p7 rfl];unfold lD at g;rw[g]
theorem qR (p:List UInt8):sk (fl p)=p.length:=by
 by_cases g:p= []
 ·subst g;rfl
 ·simp[fl,g,sk,Inl.plain?]
theorem nD: ∀(l:List Tk) (n:Nat) (p:List UInt8),okT n l->sk (tkG Tk.out p l)<=p.length+(tkB l).length
 | [],n,p,_=>by show sk (fl p)<=_;rw[qR];omega
 | .wd s::r,n,p,h=>by have:=nD r 2 (p++s) h.2.2;rw[cw,lA0];simp[Tk.B,tkG] at this⊢;omega
 | .sp::r,n,p,h=>by have:=nD r 1 (p++ [32]) h.2;rw[cw,lA0];simp[Tk.B,tkG] at this⊢;omega
 | .nl::r,n,p,h=>by
  have:=nD r 0 [] h.2;rw[cw,lA0];simp only[tkG,jG,qR];simp[Tk.B,Tk.out,sk,Inl.plain?] at this⊢;omega
 | .em k s::r,n,p,h=>by
  have:=nD r 2 [] h.2.2.2;have g:sk (Tk.out (.em k s))=0:=by show sk [if k=1 then Inl.emph [42] [.plain s] else Inl.strong [42,42] [.plain s]]=0;split<;>rfl
  rw[cw,lA0];simp only[tkG,jG,qR,g];simp at this⊢;omega
 | .cd s::r,n,p,h=>by
  have:=nD r 2 [] h.2.2;rw[cw,lA0];simp only[tkG,jG,qR];simp[Tk.B,Tk.out,sk,Inl.plain?] at this⊢;omega
 | .lk s d::r,n,p,h=>by
  have:=nD r 2 [] h.2.2.2;rw[cw,lA0];simp only[tkG,jG,qR];simp[Tk.B,Tk.out,sk,Inl.plain?] at this⊢;omega
 | .es s::r,n,p,h=>by
  have:=nD r 2 s h.2.2;rw[cw,lA0];simp only[tkG,jG,qR,sk,Inl.plain?];simp[Tk.B] at this⊢;omega
theorem yU {l:List UInt8}{c d:UInt8}{t m:List UInt8}(E:l=c::t)(hc:cO c=false)(g:l=m++ [d])(hd:cO d=false):gI cO l=l:=by
 unfold gI wM;have y:l.dropWhile cO=l:=by rw[E,lB3,hc];rfl
 rw[y];have I:l.reverse=d::m.reverse:=by rw[g];simp
 rw[I,lB3,hd];simp[g]

theorem mR {raw:List UInt8}{e i:Nat}(ts:List Inl)(I:e<=i)(E:i<=raw.length):lh raw e i ts=ts++fl (sub raw e i):=by
 have y:=qN (s:=raw) (i:=e) (j:=i) E
 unfold lh fl
 by_cases g:e<i
 ·rw[if_pos g,if_neg (by intro h0;rw[h0] at y;simp at y;omega)]
 ·rw[if_neg g,if_pos (lF1 (by omega)),lG0]
theorem Dv (p:List UInt8):(fl p).length<=1:=by unfold fl;split<;>simp
theorem WdP.last {s:List UInt8}(h:WdP s): ∃m d,s=m++ [d]/\cO d=false:=by
 rcases lY1 s with h0|⟨m,d,h0⟩
 ·exact absurd h0 h.ne
 ·rw[lK2] at h0;exact⟨m,d,h0,(B4 (h.by_ d (by rw[h0];simp))).1⟩
theorem AtD.word {X:XI}{b pb e:Nat}{p0:PS}{A s B raw:List UInt8}{ts:List Inl}{opens:List Nat}{lo:Int}{o:Opt}(U:yE R X b raw)(g:raw=A++(s++B))(O: ∀c∈s,wB c=true)(hs:raw.length<1000000000)(E:p0.pz=kE pb)(I:o.at pb∈L)(h:AtD X σ b p0 raw L (A.length+s.length) e ts opens lo):AtD X σ b p0 raw L A.length e ts opens lo:=by
 have a7:raw.length=A.length+(s.length+B.length):=by rw[g];simp
 refine AtD.plains U hs E I s.length A.length (by omega) (λj V W a6=>?_) h;have y:wB raw[j]=true:=by
  obtain⟨k,rfl⟩: ∃k,j=A.length+k:=⟨j - A.length,by omega⟩
  have:raw[A.length+k]=s[k]'(by omega):=by
   subst g;rw[lN2 (by omega)];simp only[lB6];rw[lT5]
  rw[this];exact O _ (lO1 _)
 exact⟨HB y o,(wH y).2.2.2.2.2.1⟩
theorem uD {o:Opt}(e9:o.auto=false){l:List Tk}(b4:okT 0 l)(e8:(tkB l).length<200000):jW none [] o (tkB l) (tkG Tk.out [] l):=by
 intro σ R b pb p L w _ h g0 W i4 i2;have e7:=Fc b4;have g3:=wf_tk (p:= []) b4;have g6:=lM l 0 [] none b4 (by simp) (.inl rfl);have f6:=HR (p:= []) b4;have e3:=nD l 0 [] b4;have f3:=lC l 0 [] b4;have f5:gI cO (tkB l)=tkB l:=by
  obtain⟨s,r,rfl,hs⟩:=b4.first
  obtain⟨m,d,e,hd,_⟩:=b4.last (by simp);obtain⟨c,t,rfl⟩:=lD1 hs.ne;exact yU (c:=c) (t:=t++tkB r) rfl (B4 (hs.by_ c (.head _))).1 e hd
 refine Dh h (by omega) λw h=>?_
 rw[f5] at h⊢;generalize hr:tkB l=raw at h e8 e3⊢;intro X h6;have U:yE R X b raw:=λj1 _ _ _ _ _ _ h=>h6 _ _ _ _ _ _ _ _ _ h
 generalize d0:({p with s:=raw,em:=0,lq:=none,ln:=0,lc:=0}:PS)=p0 at h;have O:p0.pz=kE pb:=by rw[<-d0];exact g0
 have h5:p0.coreS=p.coreS:=by rw[<-d0];rfl
 have a7:raw.length<1000000000:=by omega
 suffices g5:AtD X σ b p0 raw L 0 0 [] [] 0 from g5 false w p0 none 0 0 (λh=>by cases h) rfl (by rw[<-d0]) (by rw[<-d0];rfl) h
 have g4: ∀(suf:List Tk) (n:Nat) (A:List UInt8) (e:Nat) (ts:List Inl) (lo:Int),raw=A++tkB suf->okT n suf->(n=1-> ∃g,A=g++ [32])->(n=2-> ∃g c,A=g++ [c]/\cO c=false)->e<=A.length->ts.length<=4*A.length->lo<=(A.length:Int)->
  ts++tkG Tk.raw (sub raw e A.length) suf=tkG Tk.raw [] l->AtD X σ b p0 raw L A.length e ts [] lo:=by
  intro suf
  induction suf with
  |nil=>
   intro n A e ts lo E I _ _ b3 e1 e4 V;have E:raw=A:=by rw[E];simp[tkB]
   subst E;refine AtD.fin (ts':=tkG Tk.out [] l) U a7 O W e9 (by omega) ?_ f6 (by simp at e3;omega) λw p' q n c vs RM EM h4 i3 h3 e5 h=>?_
   ·rw[mR ts b3 (lE1 _)];have V:ts++fl (sub raw e raw.length)=tkG Tk.raw [] l:=V;rw[V,<-e7];refine Bv g3 g6 ?_;rw[<-V,lA0];have:=Dv (sub raw e raw.length);omega
   ·rw[f3] at e5;exact i2 w p' q n c vs RM EM (h4.trans h5) i3 h3 e5 h
  |cons t suf c2=>
   intro n A e ts lo E I h7 i1 b3 e1 e4 V;rw[cw] at E;have c1:raw.length=A.length+(t.B.length+(tkB suf).length):=by rw[E];simp
   have f4:=Dv (sub raw e A.length);have b9:raw=(A++t.B)++tkB suf:=by rw[E,lD0]
   have y:(A++t.B).length=A.length+t.B.length:=lA0;cases t with
   |wd s=>
    have hs:=I.2.1;have E:raw=A++(s++tkB suf):=E;refine AtD.word U E hs.by_ a7 O W ?_;have:=c2 2 (A++s) e ts lo b9 I.2.2 (by simp) (λ_=>by obtain⟨m,d,e,hd⟩:=hs.last;exact⟨A++m,d,by rw[e,lD0],hd⟩) (by simp;omega) (by simp;omega) (by simp;omega) ?_
    ·simpa using this
    ·have c8:=z8 (A:=A) (B:=tkB suf) (e:=e) s b3
     rw[<-E] at c8;rw[lA0,c8];exact V
   |sp=>
    have E:raw=A++32::tkB suf:=E
    have hi:A.length<raw.length:=by rw[c1];simp[Tk.B];omega
    have d2:raw[A.length]=32:=by subst E;rw[lN2 (lE1 _)];simp
    refine AtD.plain U hi a7 O W (by rw[d2];rfl) (.inr rfl) ?_;have:=c2 1 (A++ [32]) e ts lo b9 I.2 (λ_=>⟨A,rfl⟩) (by simp) (by simp;omega) (by simp;omega) (by simp;omega) ?_
    ·simpa using this
    ·have c8:=z8 (A:=A) (B:=tkB suf) (e:=e) [32] b3
     rw[show A++([32]++tkB suf)=raw from E.symm] at c8;rw[lA0,c8];exact V
   |nl=>
    have E:raw=A++10::tkB suf:=E
    have hi:A.length<raw.length:=by rw[c1];simp[Tk.B];omega
    have d2:raw[A.length]=10:=by subst E;rw[lN2 (lE1 _)];simp
    have f7: ∀k,k+1=A.length->cO (A.getD k 0)=false:=by
     obtain⟨g,c,rfl,hc⟩:=i1 I.1;intro k d3;simp at d3;subst d3;rw[qm (lE1 _),lQ1];exact hc
    have f0:0<(tkB suf).length->cO ((tkB suf).getD 0 0)=false:=by
     intro _;obtain⟨s,k0,rfl,hs⟩:=I.2.first
     obtain⟨c,t,rfl⟩:=lD1 hs.ne;exact(B4 (hs.by_ c (.head _))).1
    refine AtD.leaf (st:=A.length) (en:=A.length+1) (t:= .soft) U hi a7 O W (f:=j9) (by rw[d2];rfl) (L0:= []) (by simp) (λp _ _=>by rw[E];exact BF f7 f0 (by rw[<-E];omega)) (by omega) (by omega) (by simp) ?_;rw[mR ts b3 (by omega)];have:=c2 0 (A++ [10]) (A.length+1) (ts++fl (sub raw e A.length)++ [.soft]) lo b9 I.2 (by simp) (by simp) (by simp) (by simp;omega) (by simp;omega) ?_
    ·simpa[Inl.isOpen] using this
    ·rw[lA0,lE0,sub_self,<-V];simp[tkG,Tk.raw]
   |em k s=>
    obtain⟨g,rfl⟩:=h7 I.1;have hs:=I.2.1;have d3:=I.2.2.1;have e0:=I.2.2.2;have b8:(Tk.em k s).B.length=k+(s.length+k):=by simp[Tk.B]
    rw[b8] at c1 y;have b7:(g++ [32]).length=g.length+1:=by simp
    have a6:raw=g++32::(hN k 42++(s++(hN k 42++tkB suf))):=by rw[E];simp[Tk.B]
    have r2:raw=(g++ [32])++(hN k 42++(s++(hN k 42++tkB suf))):=by rw[a6];simp
    have b5:raw=(g++ [32]++hN k 42)++(s++(hN k 42++tkB suf)):=by rw[r2,lD0 (g++ [32])]
    have h9:raw=(g++ [32]++hN k 42++s)++(hN k 42++tkB suf):=by rw[b5,lD0 _ s]
    have l3:(g++ [32]++hN k 42).length=g.length+1+k:=by simp;omega
    have l4:(g++ [32]++hN k 42++s).length=g.length+1+k+s.length:=by simp;omega
    have e2: ∀(Y B:List UInt8) (i:Nat) (hi:i<raw.length),raw=Y++(hN k 42++B)->Y.length=i->raw[i]=42:=by
     intro Y B i hi h8 f1;have:raw[i]? =some 42:=by
      rw[h8,lI0 (by omega),f1,lQ1];obtain⟨j,rfl⟩: ∃j,k=j+1:=⟨k - 1,by omega⟩
      rfl
     rw[lH0 hi] at this;exact Option.some.inj this
    rw[b7] at b3 e1 e4 V c1⊢;have f4:(fl (sub raw e (g.length+1))).length<=1:=Dv _;have c3:=e2 _ _ (g.length+1) (by omega) r2 b7;have d1:=e2 _ _ (g.length+1+k+s.length) (by omega) h9 l4;refine AtD.leaf (st:=g.length+1) (en:=g.length+1+k) (t:= .emphP (hN k 42) true false 0 (k:Nat)) U (by omega) a7 O W (f:=dV) (by rw[c3];rfl) (L0:= []) (by simp) (λp _ _=>?_) (by omega) (by omega) (by simp) ?_
    ·rw[a6];exact hs.opn b p g _ k (by omega) (by rw[<-a6];omega)
    rw[mR ts b3 (by omega)];have c4:(Inl.emphP (hN k 42) true false 0 (k:Nat)).isOpen=false:=rfl
    rw[c4]
    show AtD X σ b p0 raw L (g.length+1+k) (g.length+1+k) _ [] lo
    have b6:=AtD.word (X:=X) (σ:=σ) (p0:=p0) (e:=g.length+1+k) (ts:=ts++fl (sub raw e (g.length+1))++ [.emphP (hN k 42) true false 0 (k:Nat)]) (opens:= []) (lo:=lo) U b5 hs.by_ a7 O W
    rw[l3] at b6;refine b6 ?_;refine AtD.leaf (st:=g.length+1+k+s.length) (en:=g.length+1+k+s.length+k) (t:= .emphP (hN k 42) false true 0 (k:Nat)) U (by omega) a7 O W (f:=dV) (by rw[d1];rfl) (L0:= []) (by simp) (λp _ _=>?_) (by omega) (by simp;omega) (by simp) ?_
    ·have:=hs.cls b p (g++ [32]++hN k 42) (tkB suf) k (by omega) e0.next (by rw[<-b5];omega)
     rw[<-b5,l3] at this;exact this
    have c5:sub raw (g.length+1+k) (g.length+1+k+s.length)=s:=by
     have:=qM (g++ [32]++hN k 42) s (hN k 42++tkB suf);rw[<-b5,l3] at this;exact this
    have g7:fl s= [.plain s]:=by unfold fl;rw[if_neg hs.ne]
    rw[mR _ (by omega) (by omega),c5,g7];have e6:(Inl.emphP (hN k 42) false true 0 (k:Nat)).isOpen=false:=rfl
    rw[e6]
    show AtD X σ b p0 raw L (g.length+1+k+s.length+k) (g.length+1+k+s.length+k) _ [] lo
    have:=c2 2 ((g++ [32])++(Tk.em k s).B) (g.length+1+k+s.length+k) (ts++fl (sub raw e (g.length+1))++ [.emphP (hN k 42) true false 0 (k:Nat)]++ [.plain s]++ [.emphP (hN k 42) false true 0 (k:Nat)]) lo b9 e0 (by simp) (λ_=>?_) (by rw[y,b7];omega) ?_ (by rw[y,b7];omega) ?_
    ·rw[y,b7,show g.length+1+(k+(s.length+k))=g.length+1+k+s.length+k by omega] at this;exact this
    ·obtain⟨j,rfl⟩: ∃j,k=j+1:=⟨k - 1,by omega⟩
     exact⟨(g++ [32])++(hN (j+1) 42++(s++hN j 42)),42,by simp[Tk.B,lC5],by decide⟩
    ·rw[y,b7];simp only[lA0,lE0];omega
    ·rw[y,b7,show g.length+1+(k+(s.length+k))=g.length+1+k+s.length+k by omega,sub_self,<-V];simp[tkG,Tk.raw]
   |cd s=>
    have hs:=I.2.1;have a6:raw=A++96::(s++96::tkB suf):=by rw[E];simp[Tk.B]
    have b8:(Tk.cd s).B.length=s.length+2:=by simp[Tk.B]
    rw[b8] at c1 y;refine AtD.code U a6 hs.ne (λc hc=>?_) ?_ (by omega) O W (by omega) (by simp) ?_
    ·have:=wH (hs.by_ c hc);exact⟨this.2.1,this.2.2.2.2.1,this.2.2.2.2.2.2.2.1⟩
    ·rcases I.2.2.next with h0|⟨B',h0|h0⟩<;>rw[h0]<;>simp
    rw[mR ts b3 (by omega)];have:=c2 2 (A++(Tk.cd s).B) (A.length+s.length+2) (ts++fl (sub raw e A.length)++ [.code s]) lo b9 I.2.2 (by simp) (λ_=>⟨A++96::s,96,by simp[Tk.B],by decide⟩) (by rw[y];omega) (by rw[y];simp;omega) (by rw[y];omega) ?_
    ·rw[y] at this;exact this
    ·rw[y,show A.length+s.length+2=A.length+(s.length+2) by omega,sub_self,<-V];simp[tkG,Tk.raw]
   |lk s d=>
    have hs:=I.2.1;have hd:=I.2.2.1;have a6:raw=A++91::(s++93::40::(d++41::tkB suf)):=by rw[E];simp[Tk.B]
    have r2:raw=(A++ [91])++(s++93::40::(d++41::tkB suf)):=by rw[a6];simp
    have b5:raw=(A++ [91]++s)++93::40::(d++41::tkB suf):=by rw[r2,lD0 _ s]
    have l2:(A++ [91]).length=A.length+1:=by simp
    have l3:(A++ [91]++s).length=A.length+1+s.length:=by simp;omega
    have b8:(Tk.lk s d).B.length=s.length+d.length+4:=by simp[Tk.B];omega
    rw[b8] at c1 y;have c3:raw[A.length]'(by omega)=91:=by
     have:raw[A.length]? =some 91:=by rw[a6,lI0 (lE1 _),lQ1];rfl
     rw[lH0 (by omega)] at this;exact Option.some.inj this
    have d1:raw[A.length+1+s.length]'(by omega)=93:=by
     have:raw[A.length+1+s.length]? =some 93:=by rw[b5,lI0 (by omega),l3,lQ1];rfl
     rw[lH0 (by omega)] at this;exact Option.some.inj this
    refine AtD.leaf (st:=A.length) (en:=A.length+1) (t:= .openP [91] (A.length+1)) U (by omega) a7 O W (f:=gO) (by rw[c3];rfl) (L0:= []) (by simp) (λp _ _=>vR (by omega) (by omega) c3) (by omega) (by omega) (by simp) ?_;rw[mR ts b3 (by omega)];have c4:(Inl.openP [91] (A.length+1)).isOpen=true:=rfl;rw[c4]
    show AtD X σ b p0 raw L (A.length+1) (A.length+1) _ ([]++ [(ts++fl (sub raw e A.length)).length]) lo
    have b6:=AtD.word (X:=X) (σ:=σ) (p0:=p0) (e:=A.length+1) (ts:=ts++fl (sub raw e A.length)++ [.openP [91] (A.length+1)]) (opens:= []++ [(ts++fl (sub raw e A.length)).length]) (lo:=lo) U r2 hs.by_ a7 O W
    rw[l2] at b6;refine b6 ?_;have c5:sub raw (A.length+1) (A.length+1+s.length)=s:=by
     have:=qM (A++ [91]) s (93::40::(d++41::tkB suf))
     rw[<-r2,l2] at this;exact this
    have c9:nf raw (A.length+1) (A.length+1+s.length)= [.plain s]:=by
     have:=lZ0.2 hs.ne;unfold nf;rw[if_pos (by omega),c5]
    have f2: ∀p:PS,wC b p raw (A.length+1+s.length) [91] (A.length+1) [] d [] 0 false (A.length+1+s.length+3+d.length):=by
     intro p;have:=zK (b:=b) (p:=p) (A:=A++ [91]++s) (B:=tkB suf) (D:=d) (t:= [91]) (k:=A.length+1) (by rw[<-b5];omega) hd.ne hd.by_
     rw[<-b5,l3] at this;exact this
    refine AtD.close (en:=A.length+1+s.length+3+d.length) (url:=d) (title:= []) (tc:=0) (cor:=false) (img:=false) (L0:= []) (ts1:=ts++fl (sub raw e A.length)) (ts2:= []) U (by omega) (by omega) d1 O W (by simp) rfl (by simp) (.inr (by omega)) (by have:=hd.len;omega) (λp _ _=>f2 p) (by rw[c9];simp) ?_ ?_ (by simp;omega) (by simp) ?_
    ·rw[c9];intro s' j0 i8 i m i0;simp at i0
    ·rw[c9];exact⟨.inl rfl,trivial⟩
    rw[c9]
    show AtD X σ b p0 raw L _ _ (ts++fl (sub raw e A.length)++ [.link [.plain s] d [] 0 false]) [] ((A.length+1:Nat):Int)
    have:=c2 2 (A++(Tk.lk s d).B) (A.length+1+s.length+3+d.length) (ts++fl (sub raw e A.length)++ [.link [.plain s] d [] 0 false]) ((A.length+1:Nat):Int) b9 I.2.2.2 (by simp) (λ_=>⟨A++91::(s++93::40::d),41,by simp[Tk.B],by decide⟩) (by rw[y];omega) (by rw[y];simp;omega) (by rw[y];omega) ?_
    ·rw[y,show A.length+(s.length+d.length+4)=A.length+1+s.length+3+d.length by omega] at this;exact this
    ·rw[y,show A.length+(s.length+d.length+4)=A.length+1+s.length+3+d.length by omega,sub_self,<-V];simp[tkG,Tk.raw]
   |es s=>
    have hs:=I.2.1;have a6:raw=A++92::42::(s++tkB suf):=by rw[E];simp[Tk.B]
    have r2:raw=(A++ [92,42])++(s++tkB suf):=by rw[a6];simp
    have l2:(A++ [92,42]).length=A.length+2:=by simp
    have b8:(Tk.es s).B.length=s.length+2:=by simp[Tk.B]
    rw[b8] at c1 y;have c3:raw[A.length]'(by omega)=92:=by
     have:raw[A.length]? =some 92:=by rw[a6,lI0 (lE1 _),lQ1];rfl
     rw[lH0 (by omega)] at this;exact Option.some.inj this
    refine AtD.leaf (st:=A.length) (en:=A.length+2) (t:= .esc [42]) U (by omega) a7 O W (f:=jw) (by rw[c3];rfl) (L0:= []) (by simp) (λp _ _=>by rw[a6];exact zF (by decide) (by rw[<-a6];omega)) (by omega) (by omega) (by simp) ?_;rw[mR ts b3 (by omega)];have c4:(Inl.esc [42]).isOpen=false:=rfl;rw[c4]
    show AtD X σ b p0 raw L (A.length+2) (A.length+2) _ [] lo
    have b6:=AtD.word (X:=X) (σ:=σ) (p0:=p0) (e:=A.length+2) (ts:=ts++fl (sub raw e A.length)++ [.esc [42]]) (opens:= []) (lo:=lo) U r2 hs.by_ a7 O W
    rw[l2] at b6;refine b6 ?_;have c5:sub raw (A.length+2) (A.length+2+s.length)=s:=by
     have:=qM (A++ [92,42]) s (tkB suf);rw[<-r2,l2] at this;exact this
    have:=c2 2 (A++(Tk.es s).B) (A.length+2) (ts++fl (sub raw e A.length)++ [.esc [42]]) lo b9 I.2.2 (by simp) (λ_=>by obtain⟨m,d,e,hd⟩:=hs.last;exact⟨A++92::42::m,d,by rw[e];simp[Tk.B],hd⟩) (by rw[y];omega) (by rw[y];simp;omega) (by rw[y];omega) ?_
    ·rw[y,show A.length+(s.length+2)=A.length+2+s.length by omega] at this;exact this
    ·rw[y,show A.length+(s.length+2)=A.length+2+s.length by omega,c5,<-V];simp[tkG]
 exact g4 l 0 [] 0 [] 0 (by rw[<-hr];rfl) b4 (by simp) (by simp) (by simp) (by simp) (by simp) (by simp[sub])
def fW (R:EP)(b7:OA)(w:World):Prop:=tk w λy=>aA b7 λa2=>aA b7 λa3=>∃a7 b5 b8,y.cell? (a2.add 4)=some (hT a7 b5 b8)/\∃b9 g c3,y.cell? (a3.add 4)=some (hT b9 g c3)/\0<=(i64.wrap ((g:Int) - 1))/\(i64.wrap ((g:Int) - 1))<(b5:Int)/\aA a7 λE=>tk y λI=>∃b6 b3 W,I.cell? ((E.add (Int.toNat (i64.wrap ((g:Int) - 1))*4)).add 1)=some (hT b6 b3 W)/\∃c4 b4 c2,I.cell? ((E.add (Int.toNat (i64.wrap ((g:Int) - 1))*4)).add 1)=some (hT c4 b4 c2)/\∃U O V,(∀w,(Instr.sliceAt gl (hT b6 b3 W) none (some (hY (i64.wrap ((b4:Int) - 1)))) none).run P w= .ok (hT U O V) w)/\stV I (((E.add (Int.toNat (i64.wrap ((g:Int) - 1))*4)).add 1).add 0) (hT U O V) λc1=>R (hQ (.tuple #[])) c1
theorem fW.sound {R x0 w}(h:fW R x0 w):callE P jv #[kT x0] R w:=
 aG [(2,.dr (rpN [0,3,6,12,15,18,10,22,24,27,30,33])),(3,.dr (rpN [0,3,6,9,15,18,21,13,25,27,30,33,36,39,44]))] Tryz.func196 Tryz.call196 h
def jP (R:EP)(b3:OA)(w:World):Prop:=tk w λI=>aA b3 λa2=>aA b3 λa3=>∃U W b5,I.cell? (a2.add 4)=some (hT U W b5)/\∃c1 g b8,I.cell? (a3.add 4)=some (hT c1 g b8)/\0<=(i64.wrap ((g:Int) - 1))/\(i64.wrap ((g:Int) - 1))<(W:Int)/\aA U λb4=>tk I λE=>∃O V b6,E.cell? ((b4.add (Int.toNat (i64.wrap ((g:Int) - 1))*4)).add 1)=some (hT O V b6)/\∃b9 y b7,E.cell? ((b4.add (Int.toNat (i64.wrap ((g:Int) - 1))*4)).add 1)=some (hT b9 y b7)/\0<=(i64.wrap ((y:Int) - 1))/\(i64.wrap ((y:Int) - 1))<(V:Int)/\aA O λa10=>∃(a7:Value),E.cell? (a10.add (Int.toNat (i64.wrap ((y:Int) - 1))*1))=some a7/\R (hQ a7) E
theorem jP.sound {R x0 w}(h:jP R x0 w):callE P me #[kT x0] R w:=
 aG [(5,.dr (rpN [0,3,6,12,15,18,10,22,24,27,30,33])),(11,.dr (rpN [0,3,6,12,15,18,10,22,24,27,30,34,36]))] Tryz.func195 Tryz.call195 h
def zB (R:EP)(y:OA)(w:World):Prop:=aA y λa1=>∃g,w.cell? (a1.add 2)=some (hX g)/\R (hQ (hX g)) w
theorem zB.sound {R x0 w}(h:zB R x0 w):callE P Do #[kT x0] R w:=
 cF Tryz.func52 Tryz.call52 h
def gw (R:EP)(E:OA)(d2:Value)(w:World):Prop:=aA E λa1=>∃c2,w.cell? (a1.add 5)=some (hY c2)/\callE P bm #[kT E,hY (i64.wrap (c2+1))] (λe d0=>e= hQ (.tuple #[])/\tk d0 λy=>aA E λd1=>aA E λc9=>∃c1 b7 c3,y.cell? (d1.add 4)=some (hT c1 b7 c3)/\∃c8 g c4,y.cell? (c9.add 4)=some (hT c8 g c4)/\0<=(i64.wrap ((g:Int) - 1))/\(i64.wrap ((g:Int) - 1))<(b7:Int)/\aA c1 λa10=>∃W b5 I,y.cell? ((a10.add (Int.toNat (i64.wrap ((g:Int) - 1))*4)).add 1)=some (hT W b5 I)/\∃b4 b3,∃V b8,(Instr.buildSlice gl 1 #[(0,d2)]).run P y= .ok (hT b4 b3 V) b8/\∃b6 U,∃O b9,(Builtin.append_ #[gl,gl] gl #[hT W b5 I,hT b4 b3 V]).run P b8= .ok (hT b6 U O) b9/\stV b9 (((a10.add (Int.toNat (i64.wrap ((g:Int) - 1))*4)).add 1).add 0) (hT b6 U O) λc5=>R (hQ (.tuple #[])) c5) w
theorem gw.sound {R x0 x1 w}(h:gw R x0 x1 w):callE P dS #[kT x0,x1] R w:=
 aG [(5,.dr (rpN [0,3,6,12,15,18,10,22,24,27,30,33]))] Tryz.func191 Tryz.call191 h

structure LnR (l:Ln) (s:List UInt8):Prop where
 ok:l.ok
 sp:l.sp=0
 tx:l.text.drop l.i=s
theorem LnR.has {l:Ln}{c:UInt8}{r:List UInt8}(h:LnR l (c::r)):l.has c r:=⟨h.ok,h.sp,h.tx⟩
theorem LnR.skip {l:Ln}{a s:List UInt8}(h:LnR l (a++s)):LnR {l with i:=l.i+a.length} s:=by
 have y:=congrArg List.length h.tx;rw[lJ1,lA0] at y;have I:=h.ok.i;have O:=h.ok.tab;have E:=h.ok.len;have g:=h.ok.sp
 refine⟨⟨by show l.i+a.length<=l.text.length;omega,by show l.tab<=l.i+a.length;omega,E,g⟩,h.sp,?_⟩
 show l.text.drop (l.i+a.length)=s
 rw[<-lN5,h.tx,lD4]
theorem LnR.quote {l:Ln}{s:List UInt8}(h:LnR l (62::32::s)):l.quote=some {l with i:=l.i+2}/\LnR {l with i:=l.i+2} s:=by
 refine⟨?_,LnR.skip (a:= [62,32]) h⟩;have g:=h.has;unfold Ln.quote;rw[g.lead (by decide) 2,g.trimC,if_pos rfl]
 show some (Ln.lead 1 true _)=_
 have y:({l with i:=l.i+1}:Ln).has 32 s:=(LnR.skip (a:= [62]) h).has
 unfold Ln.lead;rw[y.sp1];rfl
theorem LnR.tsPad {mn:Nat}{e:Bool}{s:List UInt8}: ∀(j n:Nat) {l:Ln},LnR l (hN j 32++s)->l.tsGo mn e j n=some {l with i:=l.i+j}
 |0,n,l,h=>by simp[Ln.tsGo]
 |j+1,n,l,h=>by
  have y:LnR l (32::(hN j 32++s)):=by rw[lA2] at h;exact h
  have E:=y.has;have U:=E.lt;have g:=E.get;have I:=LnR.tsPad (mn:=mn) (e:=e) (s:=s) j (n+1) (LnR.skip (a:= [32]) y)
  have V:=h.sp;have O:l.tsGo mn e (j+1) n=({l with i:=l.i+ [(32:UInt8)].length}:Ln).tsGo mn e j (n+1):=by
   rw[Ln.tsGo,if_neg (by omega),if_neg (by omega),if_neg (by rw[g];decide),if_pos g];rfl
  rw[O,I]
  show some ({l with i:=l.i+1+j}:Ln)=some {l with i:=l.i+(j+1)}
  rw[lH3,lD3]
theorem LnR.pad {l:Ln}{w:Nat}{s:List UInt8}(h:LnR l (hN w 32++s)):l.trimSp w w true=some {l with i:=l.i+w}/\LnR {l with i:=l.i+w} s:=by
 refine⟨LnR.tsPad w 0 h,?_⟩;have:=LnR.skip h;rw[lG2] at this;exact this
theorem LnR.tsEnd {mn:Nat}: ∀(j n:Nat) {l:Ln},l.sp=0->l.text.length<=l.i->l.tsGo mn true j n=some l
 |0,n,l,_,_=>by simp[Ln.tsGo]
 |j+1,n,l,h1,h2=>by
  rw[Ln.tsGo,if_neg (by omega),if_pos ⟨h2,rfl⟩];exact LnR.tsEnd j (n+1) h1 h2
theorem LnR.lenNil {l:Ln}(h:LnR l []):l.text.length<=l.i:=by
 have:=congrArg List.length h.tx;simp at this;omega
theorem LnR.padEnd {l:Ln}{w:Nat}(h:LnR l []):l.trimSp w w true=some l:=LnR.tsEnd w 0 h.sp h.lenNil
theorem LnR.padNo {l:Ln}{w:Nat}{c:UInt8}{r:List UInt8}(h:LnR l (c::r))(hc:cO c=false)(g:1<=w):l.trimSp w w true=none:=by
 obtain⟨k,rfl⟩: ∃k,w=k+1:=⟨w - 1,by omega⟩
 unfold Ln.trimSp;rw[h.has.tsGo hc,if_neg (by omega)]
inductive CX where
 |q
 |i (w:Nat)
def CX.pre:CX->List UInt8->List UInt8
 | .q,s=>62::32::s
 | .i w,s=>if s= [] then [] else hN w 32++s
def ctx:List CX->List UInt8->List UInt8
 | [],s=>s
 |c::cs,s=>c.pre (ctx cs s)
theorem oO (a b:List CX)(s:List UInt8):ctx (a++b) s=ctx a (ctx b s):=by
 induction a with
 |nil=>rfl
 |cons c a g=>show c.pre (ctx (a++b) s)=c.pre (ctx a (ctx b s));rw[g]
inductive FrX (m:Nat):List CX->List Bk->Prop where
 |nil:FrX m [] []
 |q {cs:List CX} {fs:List Bk} {f:Bk}:f.isQuote->f.ob.e=m->FrX m cs fs->FrX m (.q::cs) (f::fs)
 |i {cs:List CX} {fs:List Bk} {f g:Bk} {lb w:Nat} {bul num:Int} {it:OA}:f.isList lb bul num it->ItemOf it g lb w true->1<=w/\w<100->g.ob.e=m->FrX m cs fs->FrX m (.i w::cs) (f::g::fs)
inductive FrS:List CX->List Bk->Prop where
 |nil:FrS [] []
 |q {cs:List CX} {fs:List Bk} {f:Bk}:f.isQuote->FrS cs fs->FrS (.q::cs) (f::fs)
 |i {cs:List CX} {fs:List Bk} {f g:Bk} {lb w:Nat} {bul num:Int} {it:OA}:f.isList lb bul num it->ItemOf it g lb w true->1<=w/\w<100->FrS cs fs->FrS (.i w::cs) (f::g::fs)
theorem FrX.toS {m:Nat}{a:List CX}{fs:List Bk}(h:FrX m a fs):FrS a fs:=by
 induction h with
 |nil=>exact .nil
 |q x _ _ g=>exact .q x g
 |i x E z _ _ g=>exact .i x E z g
theorem FrS.len {a:List CX}{fs:List Bk}(h:FrS a fs):a.length<=fs.length/\fs.length<=2*a.length:=by
 induction h with
 |nil=>simp
 |q x _ g=>simp;omega
 |i x E z _ g=>simp;omega
theorem FrS.split {b:List CX}: ∀ {a:List CX} {fs:List Bk},FrS (a++b) fs-> ∃gs g,fs=gs++g/\FrS a gs/\FrS b g
 | [],fs,h=>⟨[],fs,rfl,.nil,h⟩
 |c::a,fs,h=>by
  cases h with
  |q x E=>
   obtain⟨gs,g,rfl,O,I⟩:=FrS.split E;exact⟨_::gs,g,rfl,.q x O,I⟩
  |i x U z E=>
   obtain⟨gs,g,rfl,O,I⟩:=FrS.split E;exact⟨_::_::gs,g,rfl,.i x U z O,I⟩
theorem FrS.append {a b:List CX}{fs gs:List Bk}(h:FrS a fs)(E:FrS b gs):FrS (a++b) (fs++gs):=by
 induction h with
 |nil=>exact E
 |q x _ g=>exact .q x g
 |i x I z _ g=>exact .i x I z g
theorem FrX.append {m:Nat}{a b:List CX}{fs gs:List Bk}(h:FrX m a fs)(I:FrX m b gs):FrX m (a++b) (fs++gs):=by
 induction h with
 |nil=>exact I
 |q x E _ g=>exact .q x E g
 |i x E z v _ g=>exact .i x E z v g
theorem FrX.len {m:Nat}{a:List CX}{fs:List Bk}(h:FrX m a fs):a.length<=fs.length/\fs.length<=2*a.length:=by
 induction h with
 |nil=>simp
 |q x E _ g=>simp;omega
 |i x E z v _ g=>simp;omega
def Bk.setE (f:Bk)(m:Nat):Bk:= {f with ob:=f.ob.setE m}
theorem Bk.setE_sim (f:Bk){m:Nat}(g:m<1000000000):f.sim (f.setE m):=⟨⟨m,rfl⟩,rfl,rfl,rfl,g⟩
theorem wj {X:OA->Nat->WP}(c5: ∀b5 b4 w,ak.bl1 R X b5 b4 w->X b5 b4 w){b b1:Nat}{p:PS}{gs rest:List Bk}{f:Bk}{lf:Leaf}{l l2:Ln}(h:DocC σ b (l.at b1::L) (gs++f::rest) lf p w)(hd:p.depth+1=gs.length)(d3:0<gs.length/\gs.length<1000000)(c9:l.ok)(hb:l.blank=false)(b9:p.lineno<1000000000)(c4: ∀(O:Ending->World->Prop) K w,(∀y∈gs++f::rest,∀c∈y.own,c∈K)->Sat σ w K->(∀w,Sat σ w K->O (hQ (.tuple #[l2.val,hV true])) w)->de P (callMethod f.ob.bd "pub-paratext/pub/rscmarkdown.extend" #[kT (kE b),l.val]) O w)
 (c2: ∀w,DocC σ b (l2.at b1::L) (gs++f.setE p.lineno::rest) lf {p with depth:=(gs.length:Nat)} w->X (kE b) b1 w):X (kE b) b1 w:=by
 obtain⟨M,b3,I,a7,hs,ht,U,c8,h⟩:=h;have b7: ∀y∈gs++f::rest,∀c∈y.own,c∈aN (gs++f::rest):=by
  intro y E c hc;unfold aN;exact lV2.2 ⟨y,E,by unfold Bk.mem;simp[hc]⟩
 have b6:p.depth=((gs.length - 1:Nat):Int):=by omega
 have b8:((gs++f::rest).map Bk.ob++I)[gs.length - 1+1]? =some f.ob:=by
  rw[show gs.length - 1+1=gs.length by omega,lM0 (by simp),lI2];simp
 have h:Sat σ w (l.at b1::(p.at b::M++(b3++(aN (gs++f::rest)++(a7++L))))):=h.re
 refine Dy (l2:=l2) c5 h hs b6 (by omega) b8 c9 hb (λO b0 w h d2=>?_) λw d1 W h=>?_
 ·exact c4 O _ w (λy E c hc=>by simp[b7 y E c hc]) h d2
 ·have c1:((gs++f::rest).map Bk.ob++I).set (gs.length - 1+1) (f.ob.setE p.lineno)=(gs++f.setE p.lineno::rest).map Bk.ob++I:=by
   rw[show gs.length - 1+1=gs.length by omega,lY4 _ _ (by simp),lV0,lR1 _ _ (by simp),lQ0,lQ1];simp[Bk.setE]
  have a6:((gs.length - 1:Nat):Int)+1=(gs.length:Nat):=by omega
  rw[c1,a6] at W;rw[a6] at h;have V:Sims (gs++f::rest) (gs++f.setE p.lineno::rest):=Sims.append (Sims.refl λy E=>(U y (by simp[E])).2.2.2) (.cons (f.setE_sim b9) (Sims.refl λy E=>(U y (by simp[E])).2.2.2))
  obtain⟨d0,c3⟩:=V.mem;refine c2 w ⟨d1,b3,I,a7,W,?_,V.ok U,c8,?_⟩
  ·rw[c3];exact ht.of rfl rfl rfl
  ·rw[d0];exact h.re

theorem wv (w:Nat)(s:List UInt8):(hN w 32++s).all cO=s.all cO:=by
 rw[lG5];have:(hN w (32:UInt8)).all cO=true:=by
  rw[lF2];intro c hc;rw[List.eq_of_mem_replicate hc];rfl
 rw[this,lS5]
theorem u9 {p:PS}{k:Int}(h:k=p.depth):({p with depth:=k}:PS)=p:=by rw[h]
theorem Hz {X:OA->Nat->WP}(b7: ∀c9 c5 w,ak.bl1 R X c9 c5 w->X c9 c5 w){b b1:Nat}{s:List UInt8}{lf:Leaf}{rest:List Bk}:
 ∀(cs:List CX) (gs fs:List Bk) (p:PS) (l:Ln) (w:World),FrS cs fs->DocC σ b (l.at b1::L) (gs++(fs++rest)) lf p w->p.depth+1=gs.length->0<gs.length/\gs.length+2*cs.length<1000000->LnR l (ctx cs s)->
  (∀a c O,cs=a++c::O->(ctx (c::O) s).all cO=false)->p.lineno<1000000000->
  (∀w y l2,Sims fs y->FrX p.lineno cs y->LnR l2 s->l2.text=l.text->DocC σ b (l2.at b1::L) (gs++(y++rest)) lf {p with depth:=((gs.length+fs.length:Nat):Int) - 1} w->X (kE b) b1 w)->X (kE b) b1 w:=by
 intro cs
 induction cs with
 |nil=>
  intro gs fs p l w b6 h hd e0 E a6 I a7;cases b6
  refine a7 w [] l .nil .nil E rfl ?_;rw[u9 (by simp;omega)];exact h
 |cons c cs d2=>
  intro gs fs p l w b6 h hd e0 E a6 I a7;have hb:l.blank=false:=by
   have:=a6 [] c cs rfl;unfold Ln.blank;rw[E.tx];exact this
  have c1: ∀a b3 O,cs=a++b3::O->(ctx (b3::O) s).all cO=false:=λa b3 O e=>a6 (c::a) b3 O (by rw[e];rfl)
  simp only[lF0] at e0;cases b6 with
  | @q _ y f hq hF'=>
   have E:LnR l (62::32::ctx cs s):=E
   obtain⟨b9,U⟩:=E.quote;obtain⟨e5,c3,e4⟩:=hq;refine wj (l2:= {l with i:=l.i+2}) (rest:=y++rest) b7 (by simpa using h) hd ⟨by omega,by omega⟩ E.ok hb I (λc8 K w _ h W=>?_) λw h=>?_
   ·rw[c3];refine bq mU ?_;exact te h E.ok (by rw[b9];exact⟨rfl,rfl⟩) W
   ·have h:DocC σ b (({l with i:=l.i+2}:Ln).at b1::L) ((gs++ [f.setE p.lineno])++(y++rest)) lf {p with depth:=(gs.length:Nat)} w:=by simpa using h
    refine d2 (gs++ [f.setE p.lineno]) y _ _ w hF' h (by simp) (by simp;omega) U c1 I λw b5 l2 k1 k2 k3 k4 h=>?_
    refine a7 w (f.setE p.lineno::b5) l2 (.cons (f.setE_sim I) k1) (.q ((f.setE_sim I).quote ⟨e5,c3,e4⟩) rfl k2) k3 k4 ?_;have e:(((gs++ [f.setE p.lineno]).length+y.length:Nat):Int) - 1=((gs.length+(f::y).length:Nat):Int) - 1:=by simp;omega
    rw[e] at h
    simpa using h
  | @i _ y f g lb wd bul num it hf hg' hw hF'=>
   have e6:=E;have V:=a6 [] (.i wd) cs rfl;have e3:ctx cs s≠ []:=by
    intro h0;have:(ctx (.i wd::cs) s)= []:=by show (CX.i wd).pre (ctx cs s)= [];rw[h0];rfl
    rw[this] at V;cases V
   have e2:ctx (.i wd::cs) s=hN wd 32++ctx cs s:=by
    show (if ctx cs s= [] then [] else hN wd 32++ctx cs s)=_
    rw[if_neg e3]
   rw[e2] at E V;rw[wv] at V;obtain⟨b9,U⟩:=E.pad;obtain⟨ib,d1,d0,b8⟩:=hg';obtain⟨d3,c4⟩:=hf;refine wj (l2:= {l with i:=l.i+wd}) (rest:=g::(y++rest)) b7 (by simpa using h) hd ⟨by omega,by omega⟩ E.ok hb I (λc8 K w b4 h W=>?_) λw h=>?_
   ·rw[d3];refine bq gM ?_;refine ma (ib:=ib) (lb:=lb) (n:=wd) (hv:=true) (bul:=bul) (num:=num) (lo:=false) (td:= .nilFunc) h E.ok (by omega) ?_ ?_ (by rw[b9];exact⟨rfl,rfl⟩) W
    ·rw[<-d1];exact b4 f (by simp) _ (by rw[c4];exact .head _)
    ·exact b4 g (by simp) _ (by rw[b8];exact .head _)
   have c2:({l with i:=l.i+wd}:Ln).blank=false:=by unfold Ln.blank;rw[U.tx];exact V
   have h:DocC σ b (({l with i:=l.i+wd}:Ln).at b1::L) ((gs++ [f.setE p.lineno])++g::(y++rest)) lf {p with depth:=(gs.length:Nat)} w:=by simpa using h
   refine wj (l2:= {l with i:=l.i+wd}) (rest:=y++rest) b7 h (by simp) ⟨by simp,by simp;omega⟩ U.ok c2 I (λc8 K w b4 h W=>?_) λw h=>?_
   ·rw[d0];refine bq kN ?_;exact xO h U.ok c2 (b4 g (by simp) _ (by rw[b8];exact .head _)) W
   have h:DocC σ b (({l with i:=l.i+wd}:Ln).at b1::L) ((gs++ [f.setE p.lineno,g.setE p.lineno])++(y++rest)) lf {p with depth:=((gs++ [f.setE p.lineno]).length:Nat)} w:=by simpa using h
   refine d2 (gs++ [f.setE p.lineno,g.setE p.lineno]) y _ _ w hF' h (by simp;omega) (by simp;omega) U c1 I λw b5 l2 k1 k2 k3 k4 h=>?_
   refine a7 w (f.setE p.lineno::g.setE p.lineno::b5) l2 (.cons (f.setE_sim I) (.cons (g.setE_sim I) k1)) (.i ((f.setE_sim I).list ⟨d3,c4⟩) ((g.setE_sim I).itemOf ⟨ib,d1,d0,b8⟩) hw rfl k2) k3 k4 ?_;have e:(((gs++ [f.setE p.lineno,g.setE p.lineno]).length+y.length:Nat):Int) - 1=((gs.length+(f::g::y).length:Nat):Int) - 1:=by simp;omega
   rw[e] at h
   simpa using h
theorem sK {X:OA->Nat->WP}(b8: ∀a6 W w,ak.bl1 R X a6 W w->X a6 W w){b b1:Nat}{p:PS}{gs rest:List Bk}{f:Bk}{lf:Leaf}{l l2:Ln}(h:DocC σ b (l.at b1::L) (gs++f::rest) lf p w)(hd:p.depth+1=gs.length)(c5:0<gs.length/\gs.length<1000000)(c2:l.ok)(hb:l.blank=true)(b7: ∀(E:Ending->World->Prop) K w,(∀y∈gs++f::rest,∀c∈y.own,c∈K)->Sat σ w K->(∀w,Sat σ w K->E (hQ (.tuple #[l2.val,hV true])) w)->de P (callMethod f.ob.bd "pub-paratext/pub/rscmarkdown.extend" #[kT (kE b),l.val]) E w)
 (b6: ∀w,DocC σ b (l2.at b1::L) (gs++f::rest) lf {p with depth:=(gs.length:Nat)} w->X (kE b) b1 w):X (kE b) b1 w:=by
 obtain⟨M,V,O,U,hs,ht,b5,b9,h⟩:=h;have b3: ∀y∈gs++f::rest,∀c∈y.own,c∈aN (gs++f::rest):=by
  intro y I c hc;unfold aN;exact lV2.2 ⟨y,I,by unfold Bk.mem;simp[hc]⟩
 have a7:p.depth=((gs.length - 1:Nat):Int):=by omega
 have b4:((gs++f::rest).map Bk.ob++O)[gs.length - 1+1]? =some f.ob:=by
  rw[show gs.length - 1+1=gs.length by omega,lM0 (by simp),lI2];simp
 have h:Sat σ w (l.at b1::(p.at b::M++(V++(aN (gs++f::rest)++(U++L))))):=h.re
 refine wi (l2:=l2) (ok:=true) b8 h hs a7 (by omega) b4 c2 (λE b0 w h c4=>?_) (.inl hb) (λ_ w h=>?_) (λc3=>absurd c3 (by decide))
 ·exact b7 E _ w (λy I c hc=>by simp[b3 y I c hc]) h c4
 ·have c1:((gs.length - 1:Nat):Int)+1=(gs.length:Nat):=by omega
  rw[c1] at h;exact b6 w ⟨M,V,O,U,hs.of rfl rfl rfl,ht.of rfl rfl rfl,b5,b9,h.re⟩
theorem walkB {X:OA->Nat->WP}(b3: ∀a7 W w,ak.bl1 R X a7 W w->X a7 W w){b b1:Nat}{lf:Leaf}{rest:List Bk}:
 ∀(cs:List CX) (gs fs:List Bk) (p:PS) (l:Ln) (w:World),FrS cs fs->(∀c∈cs,c≠ .q)->DocC σ b (l.at b1::L) (gs++(fs++rest)) lf p w->p.depth+1=gs.length->0<gs.length/\gs.length+2*cs.length<1000000->LnR l []->
  (∀w l2,LnR l2 []->DocC σ b (l2.at b1::L) (gs++(fs++rest)) lf {p with depth:=((gs.length+fs.length:Nat):Int) - 1} w->X (kE b) b1 w)->X (kE b) b1 w:=by
 intro cs
 induction cs with
 |nil=>
  intro gs fs p l w U I h hd a6 y O;cases U
  refine O w l y ?_;rw[u9 (by simp;omega)];exact h
 |cons c cs c1=>
  intro gs fs p l w U I h hd a6 y O;have hb:l.blank=true:=by unfold Ln.blank;rw[y.tx];rfl
  simp only[lF0] at a6;cases U with
  |q _ _=>exact absurd rfl (I .q (.head _))
  | @i _ fs' f g lb wd bul num it hf hg' hw hF'=>
   obtain⟨ib,b9,b8,b4⟩:=hg';obtain⟨b5,b6⟩:=hf;refine sK (l2:=l) (rest:=g::(fs'++rest)) b3 (by simpa using h) hd ⟨by omega,by omega⟩ y.ok hb (λb7 K w E h V=>?_) λw h=>?_
   ·rw[b5];refine bq gM ?_;refine ma (ib:=ib) (lb:=lb) (n:=wd) (hv:=true) (bul:=bul) (num:=num) (lo:=false) (td:= .nilFunc) h y.ok (by omega) ?_ ?_ (by rw[y.padEnd];exact⟨rfl,rfl⟩) V
    ·rw[<-b9];exact E f (by simp) _ (by rw[b6];exact .head _)
    ·exact E g (by simp) _ (by rw[b4];exact .head _)
   have h:DocC σ b (l.at b1::L) ((gs++ [f])++g::(fs'++rest)) lf {p with depth:=(gs.length:Nat)} w:=by simpa using h
   refine sK (l2:=Ln.zero) (rest:=fs'++rest) b3 h (by simp) ⟨by simp,by simp;omega⟩ y.ok hb (λb7 K w E h V=>?_) λw h=>?_
   ·rw[b8];refine bq kN ?_;exact qd h y.ok hb (E g (by simp) _ (by rw[b4];exact .head _)) V
   have h:DocC σ b (Ln.zero.at b1::L) ((gs++ [f,g])++(fs'++rest)) lf {p with depth:=((gs++ [f]).length:Nat)} w:=by simpa using h
   refine c1 (gs++ [f,g]) fs' _ _ w hF' (λc hc=>I c (.tail _ hc)) h (by simp;omega) (by simp;omega) ⟨⟨by decide,by decide,by decide,by decide⟩,rfl,rfl⟩ λw l2 k3 h=>?_
   refine O w l2 k3 ?_;have e:(((gs++ [f,g]).length+fs'.length:Nat):Int) - 1=((gs.length+(f::g::fs').length:Nat):Int) - 1:=by simp;omega
   rw[e] at h
   simpa using h

def pv (s:Nat)(ls:List (List UInt8)):Leaf:= .other λob M=> ∃g e,ob= [kj g s e]/\sd g ls M/\s<1000000000/\ls≠ []/\ls.length<1048570
theorem va {b s:Nat}{gs:List Bk}{par:Bk}{p:PS}{ls:List (List UInt8)}(h:DocC σ b L (gs++ [par]) (pv s ls) p w)(c9:Leaf.finN (.para ls))(e2:par.D.length<99999)(e1:(txF (gs++ [par])).length<100000)(d2: ∀w (p':PS) I nb t x,p'.base=p.base->p'.depth=p.depth->p'.lineno=p.lineno->I.like par->I.D=par.D++ [kM nb t s (s+ls.length - 1) (bl [10] ls)]->s<1000000000->ls.length<1048570->DocC σ b L (gs++ [I]) .none p' w->R (hQ x) w):
 callE P aJ #[kT (kE b)] R w:=by
 obtain⟨M,d0,d3,c8,hs,ht,a7,⟨b4,e,rfl,d1,a6,c3,c1⟩,h⟩:=h;obtain⟨c4,c2,b9⟩:=c9;have hs:Stk p (gs.map Bk.ob++ [par.ob]++ [kj b4 s e]) M:=by simpa using hs
 obtain⟨W,b6⟩:=a7 par (by simp);have e0:par.ob.n=par.D.length:=by have:=W.1;simp at this;omega
 rw[bi,dC] at h;have h:Sat σ w (p.at b::M++(par.IM++(d0++(c8++(aN gs++(par.own++(cZ par.D++(txc par.D++L)))))))):=h.re
 refine yr (ob:=gs.map Bk.ob) (par:=par.ob) (o:=kj b4 s e) h hs rfl W (by omega) ht (by simp;omega) d1 c3 (by omega) rfl c4 c2 b9 (by exact a6) λw p' V E O t nb b5 b3 x U c5 b8 b7 h=>?_
 refine d2 w p' ⟨{par.ob with q:=b5,n:=par.ob.n+1,c:=b3},par.own,par.D++ [kM nb t s (s+ls.length - 1) (bl [10] ls)],E⟩ nb t x (by rw[U];rfl) (by rw[U]) (by rw[U]) ⟨rfl,rfl,rfl,rfl⟩ rfl a6 c1 ?_;refine⟨V,O,[],[],?_,?_,?_,⟨rfl,rfl⟩,?_⟩
 ·rw[lV0,lG0];exact c5
 ·have e:txF (gs++ [⟨{par.ob with q:=b5,n:=par.ob.n+1,c:=b3},par.own,par.D++ [kM nb t s (s+ls.length - 1) (bl [10] ls)],E⟩])=txF (gs++ [par])++ [⟨t,s,s+ls.length - 1,bl [10] ls⟩]:=by
   rw[bF,bF,dO,dO,j4,lD0];rfl
  rw[e,lV0];exact b8
 ·intro g y;rcases lP0.1 y with y|y
  ·exact a7 g (by simp[y])
  ·obtain rfl:=lN0.1 y;exact⟨by rw[lV0];exact b7,by simp;omega,b6.2⟩
 ·rw[bi,dC,l8,ow];have h:Sat σ w (p'.at b::V++(E++(O++(lQ nb s (s+ls.length - 1) t::fL t s (s+ls.length - 1) none 0 0 (bl [10] ls)::(aN gs++(par.own++(cZ par.D++(txc par.D++L)))))))):=h
  show Sat σ w (p'.at b::V++(O++(aN gs++(E++(par.own++((cZ par.D++ [lQ nb s (s+ls.length - 1) t])++(txc par.D++ [fL t s (s+ls.length - 1) none 0 0 (bl [10] ls)]))))++([]++L))))
  exact h.re
def IN.tgt:IN->IN
 | .mk h ks=>if h.kind=6 then .mk {h with tight:=true} ks else .mk h ks
def wD (d:DB):Nat × Nat:=
 match d.own with
 |(_,.cells cs _)::_=>match cs.toList with
  | .int _ a:: .int _ e::_=>(a.toNat,e.toNat)
  |_=>(0,0)
 |_=>(0,0)
structure TD (G:List UInt8->List Inl) (op:Opt) (d:DB) (x:IN):Prop where
 tree:d.tree G x
 treeT:(dx d).tree G x.tgt
 kind:d.kindOK
 pos:d.posIs x.h.s x.h.e/\wD d=(x.h.s,x.h.e)/\x.h.s<1000000000/\x.h.e<2000000000
 txs: ∀t∈d.txs,jW none [] op t.raw (G t.raw)
inductive TDs (G:List UInt8->List Inl) (op:Opt):List DB->List IN->Prop where
 |nil:TDs G op [] []
 |cons {d:DB} {x:IN} {D:List DB} {xs:List IN}:TD G op d x->TDs G op D xs->TDs G op (d::D) (x::xs)
theorem TDs.append {D y:List DB}{xs g:List IN}(O:TDs G op D xs)(U:TDs G op y g):TDs G op (D++y) (xs++g):=by
 induction O with
 |nil=>exact U
 |cons h _ I=>exact .cons h I
theorem TDs.trees {D:List DB}{xs:List IN}(h:TDs G op D xs):pL G D xs:=by
 induction h with
 |nil=>exact .nil
 |cons h _ g=>exact .cons h.tree g
theorem TDs.treesT {D:List DB}{xs:List IN}(h:TDs G op D xs):pL G (D.map dx) (xs.map IN.tgt):=by
 induction h with
 |nil=>exact .nil
 |cons h _ g=>exact .cons h.treeT g
theorem TDs.len {D:List DB}{xs:List IN}(h:TDs G op D xs):xs.length=D.length:=by
 induction h with
 |nil=>rfl
 |cons h _ g=>simp[g]
theorem TDs.txs {D:List DB}{xs:List IN}(h:TDs G op D xs): ∀t∈cj D,jW none [] op t.raw (G t.raw):=by
 induction h with
 |nil=>intro t ht;simp[cj] at ht
 | @cons d x D xs h _ ih=>
  intro t ht;have e:cj (d::D)=d.txs++cj D:=by simp[cj]
  rw[e] at ht;rcases lP0.1 ht with ht|ht
  ·exact h.txs t ht
  ·exact ih t ht
theorem TDs.facts {D:List DB}{xs:List IN}(h:TDs G op D xs): ∀d∈D,d.kindOK/\d.posIs (wD d).1 (wD d).2/\(wD d).1<1000000000/\(wD d).2<2000000000:=by
 induction h with
 |nil=>intro d hd;cases hd
 | @cons d x D xs h _ ih=>
  intro e g;rcases lW0.1 g with rfl|g
  ·obtain⟨a1,a2,a3,a4⟩:=h.pos;rw[a2];exact⟨h.kind,a1,a3,a4⟩
  ·exact ih e g
def F0:List IN->Bool
 |x::y::ys=>decide (x.h.e+1<y.h.s)||F0 (y::ys)
 |_=>false
def zA:List IN->Bool
 |x::y::ys=>decide (x.h.e+1<y.h.s)||(F0 x.kids||zA (y::ys))
 | [x]=>F0 x.kids
 | []=>false
theorem TDs.gap {D:List DB}{xs:List IN}(h:TDs G op D xs):Em wD D=F0 xs:=by
 induction h with
 |nil=>rfl
 | @cons d x D xs h h2 ih=>
  cases h2 with
  |nil=>rfl
  | @cons d2 x2 D2 xs2 k k2=>
   unfold Em F0;rw[ih,h.pos.2.1,k.pos.2.1]
inductive ItR (G:List UInt8->List Inl) (op:Opt):List IT->List IN->Prop where
 |nil:ItR G op [] []
 |cons {i:IT} {xs:List IN} {is:List IT} {ys:List IN}:i.ok->TDs G op i.D xs->ItR G op is ys->ItR G op (i::is) (.mk {kind:=4,width:=i.wd,s:=i.s,e:=i.e} xs::ys)
theorem ItR.append {a b:List IT}{xs g:List IN}(E:ItR G op a xs)(y:ItR G op b g):ItR G op (a++b) (xs++g):=by
 induction E with
 |nil=>exact y
 |cons h k _ I=>exact .cons h k I
theorem ItR.gap {g:List IT}{y:List IN}(h:ItR G op g y):mN wD g=zA y:=by
 induction h with
 |nil=>rfl
 | @cons i xs g y h k h2 ih=>
  cases h2 with
  |nil=>unfold mN zA;exact k.gap
  | @cons i2 xs2 is2 ys2 h' k' h2'=>
   unfold mN zA;rw[ih,k.gap];rfl
theorem ItR.facts {y:List IT}{E:List IN}(h:ItR G op y E): ∀i∈y,i.ok/\ ∀d∈i.D,d.kindOK/\d.posIs (wD d).1 (wD d).2/\(wD d).1<1000000000/\(wD d).2<2000000000:=by
 induction h with
 |nil=>intro d hd;cases hd
 |cons h k _ I=>
  intro e g;rcases lW0.1 g with rfl|g
  ·exact⟨h,k.facts⟩
  ·exact I e g
theorem ItR.txs {g:List IT}{y:List IN}(h:ItR G op g y): ∀t∈cj (g.map IT.db),jW none [] op t.raw (G t.raw):=by
 induction h with
 |nil=>intro t ht;simp[cj] at ht
 | @cons i xs g y h k _ ih=>
  intro t ht;have e:cj ((i::g).map IT.db)=cj i.D++cj (g.map IT.db):=by simp[cj,IT.db]
  rw[e] at ht;rcases lP0.1 ht with ht|ht
  ·exact k.txs t ht
  ·exact ih t ht
theorem ItR.trees {g:List IT}{y:List IN}(h:ItR G op g y):pL G (g.map IT.db) y:=by
 induction h with
 |nil=>exact .nil
 |cons h k _ E=>exact .cons (xM h k.trees) E
def IN.tgtI:IN->IN
 | .mk h ks=> .mk h (ks.map IN.tgt)
theorem ItR.treesT {y g:List IT}(hr:Ret y g): ∀ {E:List IN},ItR G op y E->pL G (g.map IT.db) (E.map IN.tgtI)/\(∀t∈cj (g.map IT.db),t∈cj (y.map IT.db)):=by
 induction hr with
 |nil=>intro E h;cases h;exact⟨.nil,λt h=>h⟩
 | @cons i i' y g h1 h2 h3 ih=>
  intro E h;cases h with
  | @cons _ xs _ ys' k1 k2 k3=>
   obtain⟨t1,W⟩:=ih k3;have O:i'.D=i.D.map dx:=by rw[h1]
   have ht:=xM (G:=G) h2 (xs:=xs.map IN.tgt) (by rw[O];exact k2.treesT)
   have I:i'.wd=i.wd/\i'.s=i.s/\i'.e=i.e:=by rw[h1];exact⟨rfl,rfl,rfl⟩
   rw[I.1,I.2.1,I.2.2] at ht;refine⟨.cons ht t1,λt ht=>?_⟩;have V:cj ((i'::g).map IT.db)=cj i'.D++cj (g.map IT.db):=by simp[cj,IT.db]
   have U:cj ((i::y).map IT.db)=cj i.D++cj (y.map IT.db):=by simp[cj,IT.db]
   have ec:cj i'.D=cj i.D:=by rw[O];exact(qU λd hd=>(k2.facts d hd).1).2
   rw[V,ec] at ht;rw[U];rcases lP0.1 ht with ht|ht
   ·exact lC1 _ ht
   ·exact lB0 _ (W t ht)
def xE (s:Nat)(bul:UInt8)(num:Int)(its:List IN):IN:=
 .mk {kind:=3,num:=if bul=46\/bul=41 then num else -1,char:= [bul],loose:=zA its,s:=s,e:=(its.getLast?.map λx=>x.h.e).getD 0} (if zA its then its else its.map IN.tgtI)
theorem Gq {nb O s e:Nat}{raw:List UInt8}(hs:s<1000000000)(I:e<2000000000)(g:mu (G raw))(E:jW none [] op raw (G raw)):TD G op (kM nb O s e raw) (.mk {kind:=6,s:=s,e:=e} (eK (G raw))):=by
 refine⟨CK g,Cn g,.inl ⟨_,_,_,_,_,rfl⟩,⟨kr pW rfl (.head _),?_,hs,I⟩,λx y=>?_⟩
 ·show ((s:Int).toNat,(e:Int).toNat)=(s,e)
  simp
 ·obtain rfl:=lN0.1 y;exact E
theorem z7 {nb s e:Nat}{q:OA}{n c:Nat}{IM:List ai}{D:List DB}{xs:List IN}(g:Sl 1 aO q n c (D.map DB.v) IM)(y:n<1000000)(hs:s<1000000000/\e<2000000000)(h:TDs G op D xs):TD G op (oT nb s e q n c IM D) (.mk {kind:=2,s:=s,e:=e} xs):=by
 have ht:(oT nb s e q n c IM D).tree G (.mk {kind:=2,s:=s,e:=e} xs):=A3 (nb:=nb) (s:=s) (e:=e) g (by omega) h.trees
 refine⟨ht,?_,.inr ⟨_,_,rfl,by decide⟩,⟨kr xi rfl (.head _),?_,hs⟩,h.txs⟩
 ·rw[eC (d:=oT nb s e q n c IM D) rfl (by decide)];exact ht
 ·show ((s:Int).toNat,(e:Int).toNat)=(s,e)
  simp
theorem ItR.last {g:List IT}{y:List IN}(h:ItR G op g y):y.getLast?.map (λx=>x.h.e)=g.getLast?.map IT.e:=by
 induction h with
 |nil=>rfl
 | @cons i xs g y h k h2 ih=>
  cases h2 with
  |nil=>rfl
  |cons I O E=>rw[lW2,lW2];exact ih
theorem Cp {nb s e:Nat}{bul:UInt8}{num:Int}{q:OA}{n c:Nat}{IM:List ai}{items y:List IT}{g:List IN}(W:Utf8.encode (bul.toNat:Int)=bs [bul])(a7:Sl 1 aO q n c (items.map IT.v) IM)(b4:n<1000000)(hs:s<1000000000/\e<2000000000)(h:ItR G op items g)(ht:Tgh (mN wD items) items y)(b3:items.getLast?.map IT.e=some e):TD G op (qX nb s e (bul.toNat:Int) num (mN wD items) q n c IM y) (xE s bul num g):=by
 have U:(g.getLast?.map λx=>x.h.e).getD 0=e:=by rw[h.last,b3];rfl
 have V:y.map IT.v=items.map IT.v:=by
  rcases ht with ⟨_,rfl⟩|⟨_,hr⟩
  ·rfl
  ·exact hr.vs
 have O:pL G (y.map IT.db) (if zA g then g else g.map IN.tgtI)/\ ∀t∈cj (y.map IT.db),t∈cj (items.map IT.db):=by
  rw[h.gap] at ht;rcases ht with ⟨I,rfl⟩|⟨I,hr⟩
  ·rw[I];exact⟨h.trees,λt h=>h⟩
  ·rw[I];exact ItR.treesT hr h
 have E:=C0 (nb:=nb) (s:=s) (e:=e) (num:=num) (lo:=mN wD items) W (items:=y) (by rw[V];exact a7) (by omega) O.1
 rw[h.gap] at E;have a6:xE s bul num g= .mk {kind:=3,num:=if bul=46\/bul=41 then num else -1,char:= [bul],loose:=zA g,s:=s,e:=e} (if zA g then g else g.map IN.tgtI):=by
  unfold xE;rw[U]
 rw[h.gap,a6];refine⟨E,?_,.inr ⟨_,_,rfl,by decide⟩,⟨kr Ad rfl (.head _),?_,hs⟩,λt ht=>h.txs t (O.2 t ht)⟩
 ·rw[eC (d:=qX nb s e (bul.toNat:Int) num (zA g) q n c IM y) rfl (by decide)];exact E
 ·show ((s:Int).toNat,(e:Int).toNat)=(s,e)
  simp

structure yC (G:List UInt8->List Inl) (op:Opt) (ls:List (List UInt8)):Prop where
 fin:Leaf.finN (.para ls)
 inl:jW none [] op (bl [10] ls) (G (bl [10] ls))
 tame:mu (G (bl [10] ls))
inductive Pd (G:List UInt8->List Inl) (op:Opt):List IN->List Bk->Leaf->Prop where
 |none:Pd G op [] [] .none
 |para {s:Nat} {ls:List (List UInt8)}:yC G op ls->Pd G op [.mk {kind:=6,s:=s,e:=s+ls.length - 1} (eK (G (bl [10] ls)))] [] (pv s ls)
 |quote {f:Bk} {junk:List Bk} {lf:Leaf} {xs ys:List IN}:f.isQuote->TDs G op f.D xs->Pd G op ys junk lf->Pd G op [.mk {kind:=2,s:=f.ob.s,e:=f.ob.e} (xs++ys)] (f::junk) lf
 |list {f g:Bk} {junk:List Bk} {lf:Leaf} {lb wd:Nat} {bul:UInt8} {num:Int} {it:OA} {items:List IT} {ixs xs ys:List IN}:f.isList lb bul.toNat num it->f.D=items.map IT.db->ItR G op items ixs->ItemOf it g lb wd true->1<=wd/\wd<100->Utf8.encode (bul.toNat:Int)=bs [bul]->TDs G op g.D xs->Pd G op ys junk lf->
  Pd G op [xE f.ob.s bul num (ixs++ [.mk {kind:=4,width:=wd,s:=g.ob.s,e:=g.ob.e} (xs++ys)])] (f::g::junk) lf
def wA (G:List UInt8->List Inl)(op:Opt)(xs:List IN)(junk:List Bk)(lf:Leaf):Prop:=
 ∀(σ:Out) (R:Ending->World->Prop) (L:List ai) (b pb:Nat) (p:PS) (w:World) (X:OA->Int->WP) (gs:List Bk) (top:Bk) (k:Nat),(∀I E w,aI.bl1 R X I E w->X I E w)->op.at pb∈L->p.pz=kE pb->k<=gs.length+1->
  (∀O∈gs++top::junk,O.D.length<=90000)->(txF (gs++top::junk)).length<=90000->DocC σ b L (gs++top::junk) lf p w->
  (∀w (p':PS) y l,p'.base=p.base->p'.depth=p.depth->p'.lineno=p.lineno->y.like top->y.D=top.D++l->TDs G op l xs->(cj l).length<=(txF junk).length+1->DocC σ b L (gs++ [y]) .none p' w->X (kE b) (k:Int) w)->X (kE b) (k:Int) w
theorem Bk.like.refl (f:Bk):f.like f:=⟨rfl,rfl,rfl,rfl⟩
theorem Bk.like.quote {f g:Bk}(h:g.like f)(I:f.isQuote):g.isQuote:=by
 obtain⟨E,O,y⟩:=I;exact⟨E,h.1.trans O,h.2.2.2.trans y⟩
theorem Bk.like.itemOf {f g:Bk}{lb wd:Nat}{it:OA}{hv:Bool}(h:g.like f)(y:ItemOf it f lb wd hv):ItemOf it g lb wd hv:=by
 obtain⟨ib,I,E,O⟩:=y;exact⟨ib,I,h.1.trans E,h.2.2.2.trans O⟩
theorem di (a b:List DB):cj (a++b)=cj a++cj b:=by simp[cj]
theorem AW {X:OA->Int->WP}{b k s:Nat}{fs:List Bk}{ls:List (List UInt8)}{p:PS}(U: ∀y E w,aI.bl1 R X y E w->X y E w)(h:DocC σ b L fs (pv s ls) p w)(b4:k<=fs.length)(hc:callE P aJ #[kT (kE b)] (λe O=> ∃(I:Value),e= hQ I/\X (kE b) (k:Int) O) w):X (kE b) (k:Int) w:=by
 obtain⟨M,a6,V,a7,hs,ht,W,⟨b3,e,rfl,b5⟩,h⟩:=h;have g:=hs.2.1;rw[lA0,lQ0] at g;refine U _ _ _ (aa ?_);refine⟨_,_,_,h.ldA,?_⟩;rw[g];exact ag (by simp;omega) hc
theorem Pd.close (f7:op.task=false){xs:List IN}{junk:List Bk}{lf:Leaf}(h:Pd G op xs junk lf):wA G op xs junk lf:=by
 induction h with
 |none=>
  intro σ R L b pb p w X gs top k U b5 b4 e9 I a7 h a6;exact a6 w p top [] rfl rfl rfl (.refl top) (by simp) .nil (by simp[cj]) h
 | @para s ls hp=>
  intro σ R L b pb p w X gs top k U b5 b4 e9 I a7 h a6;have f5:=I top (by simp);have g0:k<=(gs++ [top]).length:=by rw[lA0];simp;omega
  refine AW U h g0 ?_;refine va h hp.fin (by omega) (by omega) λw p' b6 nb t x b1 b2 b8 V W g7 h9 h=>⟨_,rfl,?_⟩
  have hb:s+ls.length - 1<2000000000:=by omega
  exact a6 w p' b6 _ b1 b2 b8 V W (.cons (Gq g7 hb hp.tame hp.inl) .nil) (by simp[cj,kM]) h
 | @quote f junk lf xs ys hq hxs hys ih=>
  intro σ R L b pb p w X gs top k U b5 b4 e9 I a7 h a6;have e0:gs++top::f::junk=(gs++ [top])++f::junk:=by simp
  rw[e0] at I a7 h;have f5:=I top (by simp);refine ih σ R L b pb p w X (gs++ [top]) f k U b5 b4 (by simp;omega) I a7 h λw p' y l b1 b2 b8 V W c9 g6 h=>?_
  have h:DocC σ b L (gs++ [top,y]) .none p' w:=by simpa using h
  have O:y.ok:=by obtain⟨_,_,_,_,_,_,d1,_⟩:=h;exact d1 y (by simp)
  have d2:y.ob.n<1000000:=by have:=O.1.1;have:=O.2.1;simp at*;omega
  refine pQ U h (by simp;omega) ?_;refine zM h (V.quote hq) (by omega) λw b6 nb x ht c5 h=>⟨_,rfl,?_⟩
  refine a6 w {p' with stn:=gs.length+1} b6 _ b1 b2 b8 ht c5 ?_ ?_ h
  rotate_left
  ·have b7:cj [oT nb y.ob.s y.ob.e y.ob.q y.ob.n y.ob.c y.IM y.D]=cj f.D++cj l:=by rw[<-di,<-W];simp[cj,oT]
   have d3:txF (f::junk)=cj f.D++txF junk:=by simp[txF]
   rw[b7,d3,lA0,lA0];omega
  have:=z7 (nb:=nb) (s:=y.ob.s) (e:=y.ob.e) O.1 d2 ⟨O.2.2.1,by have:=O.2.2.2;omega⟩ (by rw[W];exact hxs.append c9)
  rw[V.2.1,V.2.2.1] at this⊢;exact .cons this .nil
 | @list f g junk lf lb wd bul num it items ixs xs ys hf hfD hit hg hwd hu hxs hys ih=>
  intro σ R L b pb p w X gs top k U b5 b4 e9 I a7 h a6;have e0:gs++top::f::g::junk=(gs++ [top,f])++g::junk:=by simp
  rw[e0] at I a7 h;have f5:=I top (by simp);have i1:=I f (by simp);refine ih σ R L b pb p w X (gs++ [top,f]) g k U b5 b4 (by simp;omega) I a7 h λw p' E l b1 b2 b8 V W c9 g6 h=>?_
  have h:DocC σ b L (gs++ [top]++ [f,E]) .none p' w:=by simpa using h
  refine pQ U h (by simp;omega) ?_;refine vb h (V.itemOf hg).item hf (by omega) λw y nb x g3 f3 h8 c5 f1 h=>⟨_,rfl,?_⟩
  generalize d0:IT.mk nb E.ob.s E.ob.e E.ob.q E.ob.n E.ob.c wd E.IM E.D=ii at c5 f1;have b9:ItR G op (items++ [ii]) (ixs++ [.mk {kind:=4,width:=wd,s:=g.ob.s,e:=g.ob.e} (xs++ys)]):=by
   refine hit.append ?_;have:=ItR.cons (G:=G) (op:=op) (i:=ii) (xs:=xs++ys) f1 (by rw[<-d0];show TDs G op E.D (xs++ys);rw[W];exact hxs.append c9) .nil
   rw[<-d0] at this⊢;have e8:(IT.mk nb E.ob.s E.ob.e E.ob.q E.ob.n E.ob.c wd E.IM E.D).s=g.ob.s:=V.2.1;have b7:(IT.mk nb E.ob.s E.ob.e E.ob.q E.ob.n E.ob.c wd E.IM E.D).e=g.ob.e:=V.2.2.1;rw[e8,b7] at this;exact this
  have h:DocC σ b L (gs++ [top,y]) .none {p' with stn:=(gs++ [top]).length+1} w:=by simpa using h
  have O:y.ok:=by obtain⟨_,_,_,_,_,_,d1,_⟩:=h;exact d1 y (by simp)
  have f2:y.D=(items++ [ii]).map IT.db:=by rw[c5,hfD];simp
  have d2:y.ob.n<1000000:=by have:=O.1.1;have:=O.2.1;simp at*;omega
  refine pQ U h (by simp;omega) ?_;refine BC (op:=op) (pb:=pb) (items:=items++ [ii]) (pos:=wD) h g3 f2 (by simp) b9.facts (by rw[<-b4];exact pJ b1) b5 f7 (by omega) λw p2 b6 g5 e8 c8 x h2 h5 h6 i2 ht f4 f6 g4 h=>⟨_,rfl,?_⟩
  refine a6 w p2 b6 _ (h2.trans b1) (h5.trans b2) (h6.trans b8) ht g4 (.cons ?_ .nil) ?_ h
  rotate_left
  ·have b7:cj [qX g5 y.ob.s e8 bul.toNat num (mN wD (items++ [ii])) y.ob.q y.ob.n y.ob.c y.IM c8]=cj (c8.map IT.db):=by simp[cj,qX]
   have h3:(cj (c8.map IT.db))=cj ((items++ [ii]).map IT.db):=by
    rcases f4 with ⟨_,rfl⟩|⟨_,hr⟩
    ·rfl
    ·exact(hr.facts λi hi d hd=>((b9.facts i hi).2 d hd).1).1
   have h4:cj ii.D=cj g.D++cj l:=by rw[<-d0,<-di,<-W]
   have h7:cj ((items++ [ii]).map IT.db)=cj f.D++(cj g.D++cj l):=by rw[lV0,di,<-hfD,<-h4];simp[cj,IT.db]
   have d3:txF (f::g::junk)=cj f.D++(cj g.D++txF junk):=by simp[txF]
   rw[b7,h3,h7,d3];simp only[lA0];omega
  have f0:=O.1;rw[f2] at f0;have g2:((items++ [ii]).map IT.db).map DB.v=(items++ [ii]).map IT.v:=by simp[Function.comp_def,IT.db]
  rw[g2] at f0;rw[f3];refine Cp hu f0 d2 ⟨f3▸O.2.2.1,?_⟩ b9 f4 f6.2;obtain⟨h1,g1,rfl⟩:=f6.1;have:=(b9.facts h1 g1).1.se.2;omega
theorem FK {xs:List IN}{junk:List Bk}{lf:Leaf}{b pb:Nat}{p:PS}{gs:List Bk}{top:Bk}(b5:wA G op xs junk lf)(a6:op.at pb∈L)(W:p.pz=kE pb)(c1: ∀g∈gs++top::junk,g.D.length<=90000)(b7:(txF (gs++top::junk)).length<=90000)(h:DocC σ b L (gs++top::junk) lf p w)(c2: ∀w (p':PS) y l,p'.base=p.base->p'.depth=p.depth->p'.lineno=p.lineno->y.like top->y.D=top.D++l->TDs G op l xs->(cj l).length<=(txF junk).length+1->DocC σ b L (gs++ [y]) .none p' w->R (hQ (.tuple #[])) w):
 callE P bm #[kT (kE b),hY ((gs.length+1:Nat):Int)] R w:=by
 refine aI.sound ?_;have h0:=h;obtain⟨M,b9,O,b6,hs,ht,a7,c4,h⟩:=h;have E:=hs.2.1;simp only[lA0,lQ0,lF0] at E;refine aa ?_;refine⟨_,_,_,h.ldA,?_⟩;rw[E];refine af (by simp;omega) ?_;intro X I;refine b5 σ R L b pb p w X gs top (gs.length+1) I a6 W (lE1 _) c1 b7 h0 λw p' y l b1 b2 c3 b8 V U b4 h=>?_
 have h0:=h;obtain⟨M,b9,O,b6,hs,ht,a7,⟨rfl,rfl⟩,h⟩:=h;have E:=hs.2.1;simp only[lA0,lQ0,lF0,lM1,lL1] at E;refine I _ _ _ (aa ?_);refine⟨_,_,_,h.ldA,?_⟩;rw[E];exact af (by simp) (c2 w p' y l b1 b2 c3 b8 V U b4 h0)
theorem DocC.drop {b:Nat}{c:ai}{fs:List Bk}{lf:Leaf}{p:PS}(h:DocC σ b (c::L) fs lf p w):DocC σ b L fs lf p w:=by
 obtain⟨M,E,g,I,hs,ht,y,O,h⟩:=h;exact⟨M,E,g,I,hs,ht,y,O,h.less [c]⟩
theorem wq {xs:List IN}{junk:List Bk}{lf:Leaf}{b b1 pb:Nat}{p:PS}{gs:List Bk}{top:Bk}{l:Ln}(b7:wA G op xs junk lf)(a7:op.at pb∈L)(a6:p.pz=kE pb)(c3: ∀g∈gs++top::junk,g.D.length<=90000)(c1:(txF (gs++top::junk)).length<=90000)(h:DocC σ b (l.at b1::L) (gs++top::junk) lf p w)(hd:p.depth=gs.length)(c8:gs.length<1000000)(c2:l.ok)(hb:l.blank=true)(c4: ∀w (p':PS) y l,p'.base=p.base->p'.lineno=p.lineno->y.like top->y.D=top.D++l->TDs G op l xs->(cj l).length<=(txF junk).length+1->DocC σ b L (gs++ [y]) .none p' w->R (hQ (.tuple #[])) w):
 ak.k2 R (kE b) b1 w:=by
 unfold ak.k2;obtain⟨M,I,O,E,hs,ht,b4,b8,h⟩:=h;have h:Sat σ w (l.at b1::p.at b::(M++(I++(aN (gs++top::junk)++(E++L))))):=h.re
 refine dH h (.head _) c2 λw h=>⟨_,rfl,?_⟩
 rw[hb];refine ag rfl (aa ⟨_,Sat.ld h (.tail _ (.head _)) (i:=5) rfl,?_⟩);have e:i64.wrap (p.depth+1)=((gs.length+1:Nat):Int):=by rw[hd,i64_in _ (by omega)];omega
 rw[e];refine FK (L:=l.at b1::L) (pb:=pb) b7 (.tail _ a7) a6 c3 c1 ⟨M,I,O,E,hs,ht,b4,b8,h.re⟩ λw p' y b9 U b2 c5 b6 W V b5 h=>⟨rfl,?_⟩
 exact c4 w p' y b9 U c5 b6 W V b5 h.drop

theorem Pd.len {xs:List IN}{junk:List Bk}{lf:Leaf}(h:Pd G op xs junk lf):xs.length<=1:=by
 cases h<;>simp
theorem LnR.quoteNo {l:Ln}(h:LnR l []):l.quote=none:=by
 have y:=h.lenNil;have E:=h.sp;have g:l.text[l.i]? =none:=lV1 y;unfold Ln.quote Ln.lead Ln.trimSp Ln.tsGo;rw[if_neg (by omega),if_neg (by simp),if_neg (by rw[g];simp),if_neg (by rw[g];simp),if_pos (lD2 _)];simp[Ln.trimC,g]
theorem Gw {X:OA->Nat->WP}(b8: ∀a6 W w,ak.bl1 R X a6 W w->X a6 W w){b b1:Nat}{p:PS}{gs rest:List Bk}{f:Bk}{lf:Leaf}{l:Ln}(h:DocC σ b (l.at b1::L) (gs++f::rest) lf p w)(hd:p.depth+1=gs.length)(c4:0<gs.length/\gs.length<1000000)(c1:l.ok)(b7: ∀(E:Ending->World->Prop) K w,(∀y∈gs++f::rest,∀c∈y.own,c∈K)->Sat σ w K->(∀w,Sat σ w K->E (hQ (.tuple #[l.val,hV false])) w)->de P (callMethod f.ob.bd "pub-paratext/pub/rscmarkdown.extend" #[kT (kE b),l.val]) E w)
 (b6: ∀w,DocC σ b (l.at b1::L) (gs++f::rest) lf p w->ak.k2 R (kE b) b1 w):X (kE b) b1 w:=by
 obtain⟨M,V,O,U,hs,ht,b5,b9,h⟩:=h;have b3: ∀y∈gs++f::rest,∀c∈y.own,c∈aN (gs++f::rest):=by
  intro y I c hc;unfold aN;exact lV2.2 ⟨y,I,by unfold Bk.mem;simp[hc]⟩
 have a7:p.depth=((gs.length - 1:Nat):Int):=by omega
 have b4:((gs++f::rest).map Bk.ob++O)[gs.length - 1+1]? =some f.ob:=by
  rw[show gs.length - 1+1=gs.length by omega,lM0 (by simp),lI2];simp
 have h:Sat σ w (l.at b1::(p.at b::M++(V++(aN (gs++f::rest)++(U++L))))):=h.re
 refine wi (l2:=l) (ok:=false) b8 h hs a7 (by omega) b4 c1 (λE b0 w h c3=>?_) (.inr ⟨rfl,rfl⟩) (λc2=>absurd c2 (by decide)) (λ_ w h=>?_)
 ·exact b7 E _ w (λy I c hc=>by simp[b3 y I c hc]) h c3
 ·exact b6 w ⟨M,V,O,U,hs,ht,b5,b9,h.re⟩
theorem Gx {X:OA->Nat->WP}(b4: ∀U O w,ak.bl1 R X U O w->X U O w){b b1 s:Nat}{p:PS}{gs:List Bk}{ls:List (List UInt8)}{l:Ln}(h:DocC σ b (l.at b1::L) gs (pv s ls) p w)(hd:p.depth+1=gs.length)(b9:0<gs.length/\gs.length<1000000)(b5:l.ok)(a7: ∀w,DocC σ b (l.at b1::L) gs (pv s ls) p w->ak.k2 R (kE b) b1 w):X (kE b) b1 w:=by
 obtain⟨M,I,b8,y,hs,ht,a6,g,h⟩:=h;have b3:=g;obtain⟨E,e,rfl,c1⟩:=g;have V:p.depth=((gs.length - 1:Nat):Int):=by omega
 have W:(gs.map Bk.ob++ [kj E s e])[gs.length - 1+1]? =some (kj E s e):=by
  rw[show gs.length - 1+1=gs.length by omega];simp
 have h:Sat σ w (l.at b1::(p.at b::M++(I++(aN gs++(y++L))))):=h.re
 refine wi (l2:=l) (ok:=false) b4 h hs V (by omega) W b5 (λc2 b0 w h b7=>?_) (.inr ⟨rfl,rfl⟩) (λb6=>absurd b6 (by decide)) (λ_ w h=>?_)
 ·refine bq tB ?_;exact vK h b7
 ·exact a7 w ⟨M,I,_,y,hs,ht,a6,b3,h.re⟩
theorem endX {X:OA->Nat->WP}(V: ∀I E w,ak.bl1 R X I E w->X I E w){b b1:Nat}{p:PS}{gs:List Bk}{l:Ln}(h:DocC σ b (l.at b1::L) gs .none p w)(hd:p.depth+1=gs.length)(a6:0<gs.length/\gs.length<1000000)(U: ∀w,DocC σ b (l.at b1::L) gs .none p w->ak.k2 R (kE b) b1 w):X (kE b) b1 w:=by
 obtain⟨M,y,W,a7,hs,ht,O,⟨rfl,rfl⟩,h⟩:=h;have g:=hs.2.1;simp only[lG0,lQ0] at g;refine V _ _ _ ?_;have h:Sat σ w (l.at b1::p.at b::(M++(y++(aN gs++([]++L))))):=h.re
 refine Sat.tk h λw h=>aa (aa ?_)
 refine⟨_,Sat.ld h (.tail _ (.head _)) (i:=5) rfl,_,_,_,Sat.ld h (.tail _ (.head _)) (i:=4) rfl,?_⟩;rw[i64_in _ (by omega),g];refine af (by simp;omega) ?_;exact U w ⟨M,y,[],[],hs,ht,O,⟨rfl,rfl⟩,h.re⟩
theorem ES (e5:op.task=false){X:OA->Nat->WP}(d0: ∀g0 f5 w,ak.bl1 R X g0 f5 w->X g0 f5 w){b b1 pb:Nat}(e6:op.at pb∈L){xs:List IN}{junk:List Bk}{lf:Leaf}(g2:Pd G op xs junk lf):
 ∀(gs:List Bk) (top:Bk) (p:PS) (l:Ln) (w:World),p.pz=kE pb->gs.length+junk.length<900000->(∀I∈gs++top::junk,I.D.length<=90000)->(txF (gs++top::junk)).length<=90000->DocC σ b (l.at b1::L) (gs++top::junk) lf p w->p.depth=gs.length->LnR l []->
  (∀w (p':PS) O l U e0 pend,p'.base=p.base->p'.lineno=p.lineno->O.like top->O.D=top.D++l->TDs G op l e0->Pd G op pend U .none->e0++pend=xs->(U.length<=junk.length/\ ∀N,(∀I∈junk,I.D.length<=N)-> ∀I∈U,I.D.length<=N+1)->(txF (O::U)).length<=(txF (top::junk)).length+1->
   (U= []\/ ∃f rest lb num it,∃bul:UInt8,U=f::rest/\f.isList lb bul.toNat num it/\ ∃x,xs= [x]/\x.h.char= [bul])->DocC σ b L (gs++O::U) .none p' w->R (hQ (.tuple #[])) w)->X (kE b) b1 w:=by
 have e7: ∀(top O:Bk) (l:List DB) (junk:List Bk),O.D=top.D++l->(cj l).length<=(txF junk).length+1->(txF [O]).length<=(txF (top::junk)).length+1:=by
  intro top O l junk f4 h9;have g5:txF (top::junk)=cj top.D++txF junk:=by simp[txF]
  rw[dO,f4,di,g5];simp only[lA0];omega
 have e9:=g2
 induction g2 with
 |none=>
  intro gs top p l w b5 d3 a7 a6 h hd E b8;refine endX d0 h (by simp;omega) ⟨by simp,by simp;omega⟩ λw h=>?_
  refine wq (Pd.close e5 (.none:Pd G op [] [] .none)) e6 b5 a7 a6 h hd (by omega) E.ok (by unfold Ln.blank;rw[E.tx];rfl) λw p' O b9 b6 b7 W V b3 c6 h=>?_
  exact b8 w p' O b9 [] [] [] b6 b7 W V b3 .none rfl ⟨lD2 _,λN _ I b4=>by cases b4⟩ (e7 _ _ _ _ V c6) (.inl rfl) h
 | @para s ls hp=>
  intro gs top p l w b5 d3 a7 a6 h hd E b8;refine Gx d0 h (by simp;omega) ⟨by simp,by simp;omega⟩ E.ok λw h=>?_
  refine wq (Pd.close e5 e9) e6 b5 a7 a6 h hd (by omega) E.ok (by unfold Ln.blank;rw[E.tx];rfl) λw p' O b9 b6 b7 W V b3 c6 h=>?_
  exact b8 w p' O b9 [] _ [] b6 b7 W V b3 .none (by simp) ⟨lD2 _,λN _ I b4=>by cases b4⟩ (e7 _ _ _ _ V c6) (.inl rfl) h
 | @quote f junk lf xs ys hq hxs hys ih=>
  intro gs top p l w b5 d3 a7 a6 h hd E b8;obtain⟨j1,g6,j0⟩:=hq;have h:DocC σ b (l.at b1::L) ((gs++ [top])++f::junk) lf p w:=by simpa using h
  refine Gw d0 h (by simp;omega) ⟨by simp,by simp;omega⟩ E.ok (λf6 K w _ h d2=>?_) λw h=>?_
  ·rw[g6];refine bq mU ?_;exact te h E.ok (by rw[E.quoteNo];exact⟨rfl,rfl⟩) d2
  have h:DocC σ b (l.at b1::L) (gs++top::f::junk) lf p w:=by simpa using h
  refine wq (Pd.close e5 e9) e6 b5 a7 a6 h hd (by omega) E.ok (by unfold Ln.blank;rw[E.tx];rfl) λw p' O b9 b6 b7 W V b3 c6 h=>?_
  exact b8 w p' O b9 [] _ [] b6 b7 W V b3 .none (by simp) ⟨lD2 _,λN _ I b4=>by cases b4⟩ (e7 _ _ _ _ V c6) (.inl rfl) h
 | @list f I junk lf lb wd bul num it items ixs xs ys hf hfD hit b4 hwd hu hxs hys ih=>
  intro gs top p l w b5 d3 a7 a6 h hd E b8;simp only[lF0] at d3;have g3:=b4;have f0:=hf;obtain⟨ib,h6,h5,f3⟩:=b4;obtain⟨h8,g7⟩:=hf;have hb:l.blank=true:=by unfold Ln.blank;rw[E.tx];rfl
  have h:DocC σ b (l.at b1::L) ((gs++ [top])++f::I::junk) lf p w:=by simpa using h
  refine sK (l2:=l) d0 h (by simp;omega) ⟨by simp,by simp;omega⟩ E.ok hb (λf6 K w e3 h d2=>?_) λw h=>?_
  ·rw[h8];refine bq gM ?_;refine ma (ib:=ib) (lb:=lb) (n:=wd) (hv:=true) (bul:=bul.toNat) (num:=num) (lo:=false) (td:= .nilFunc) h E.ok (by omega) ?_ ?_ (by rw[E.padEnd];exact⟨rfl,rfl⟩) d2
   ·rw[<-h6];exact e3 f (by simp) _ (by rw[g7];exact .head _)
   ·exact e3 I (by simp) _ (by rw[f3];exact .head _)
  have h:DocC σ b (l.at b1::L) ((gs++ [top,f])++I::junk) lf {p with depth:=((gs++ [top]).length:Nat)} w:=by simpa using h
  refine sK (l2:=Ln.zero) d0 h (by simp;omega) ⟨by simp,by simp;omega⟩ E.ok hb (λf6 K w e3 h d2=>?_) λw h=>?_
  ·rw[h5];refine bq kN ?_;exact qd h E.ok hb (e3 I (by simp) _ (by rw[f3];exact .head _)) d2
  have h7:gs++top::f::I::junk=(gs++ [top,f])++I::junk:=by simp
  rw[h7] at a7 a6;refine ih hys (gs++ [top,f]) I {p with depth:=((gs++ [top,f]).length:Nat)} Ln.zero w b5 (by simp;omega) a7 a6 h rfl ⟨⟨by decide,by decide,by decide,by decide⟩,rfl,rfl⟩ λw p' e2 b9 U e0 pend b6 b7 W V b3 c6 c7 g1 l5 i8 h=>?_
  have h:DocC σ b L (gs++top::f::e2::U) .none p' w:=by simpa using h
  have g4:Pd G op [xE f.ob.s bul num (ixs++ [.mk {kind:=4,width:=wd,s:=I.ob.s,e:=I.ob.e} (xs++ys)])] (f::e2::U) .none:=by
   have:=Pd.list (G:=G) (op:=op) (xs:=xs++e0) f0 hfD hit (W.itemOf g3) hwd hu (by rw[V];exact hxs.append b3) c6
   rw[lD0,c7,W.2.1,W.2.2.1] at this;exact this
  refine b8 w p' top [] (f::e2::U) [] _ b6 b7 (.refl top) (by simp) .nil g4 rfl ⟨by have:=g1.1;simp;omega,λN e8 x d1=>?_⟩ ?_ (.inr ⟨f,e2::U,lb,num,it,bul,rfl,f0,_,rfl,rfl⟩) h
  ·rcases lW0.1 d1 with rfl|d1
   ·have:=e8 x (by simp);omega
   rcases lW0.1 d1 with rfl|d1
   ·have f4:=e8 I (by simp);have h9:=b3.len;have k0:=hys.len;have i0:=congrArg List.length c7;rw[V];simp only[lA0] at i0⊢;omega
   ·exact g1.2 N (λy i4=>e8 y (by simp[i4])) x d1
  ·have f7: ∀(u:Bk) J,txF (top::f::u::J)=cj top.D++(cj f.D++txF (u::J)):=by intro u J;simp[txF]
   rw[f7,f7];simp only[lA0];omega

theorem qx {xs:List IN}{junk:List Bk}{lf:Leaf}{b pb I:Nat}{cs:List Value}{E:TypeId}{p:PS}{gs:List Bk}{top:Bk}{t:TypeId}{v:Value}(c4:wA G op xs junk lf)(b9:op.at pb∈L)(b8:p.pz=kE pb)(d0: ∀W∈gs++top::junk,W.D.length<=90000)(c9:(txF (gs++top::junk)).length<=90000)(h:DocC σ b ((I,cel cs E)::L) (gs++top::junk) lf p w)(hd:p.depth=gs.length)(e3:gs.length<900000)(a6:p.lineno<1000000000)(e0: ∀w (p':PS) y l f,p'.base=p.base->p'.lineno=p.lineno->p'.depth=p.depth->y.like top->y.D=top.D++l->TDs G op l xs->(cj l).length<=(txF junk).length+1->f.ob=⟨.iface t v,none,0,0,p.lineno,p.lineno⟩->f.own= [(I,cel cs E)]->f.D= []->f.IM= []->
  DocC σ b L (gs++ [y,f]) .none p' w->R (hQ (.tuple #[])) w):
 callE P bQ #[kT (kE b),.iface t v] R w:=by
 obtain⟨M,b5,b7,b4,hs,ht,c1,c5,h⟩:=h;have h:Sat σ w (p.at b::(M++(b5++(aN (gs++top::junk)++(b4++((I,cel cs E)::L)))))):=h
 refine sa h (by omega) λw h=>?_
 have e:p.depth+1=((gs.length+1:Nat):Int):=by omega
 rw[e];refine FK (L:=(I,cel cs E)::L) (pb:=pb) c4 (.tail _ b9) b8 d0 c9 ⟨M,b5,b7,b4,hs,ht,c1,c5,h⟩ λw d2 y d3 c8 c3 b3 k1 k2 k3 k4 h=>?_
 obtain⟨d1,V,e1,e2,a7,k5,k6,⟨rfl,rfl⟩,h⟩:=h;rw[lG0] at a7;refine⟨rfl,d2,(gs++ [y]).map Bk.ob,d1,V++(aN (gs++ [y])++((I,cel cs E)::L)),a7,by simp;omega,h,λw p' b6 O c2 h=>?_⟩
 ·refine e0 w p' y d3 ⟨⟨.iface t v,none,0,0,p.lineno,p.lineno⟩,[(I,cel cs E)],[],[]⟩ (by rw[O,<-c8];rfl) (by rw[O,<-b3]) (by rw[O,<-c3]) k1 k2 k3 k4 rfl rfl rfl rfl ?_;have e:gs++ [y,(⟨⟨.iface t v,none,0,0,p.lineno,p.lineno⟩,[(I,cel cs E)],[],[]⟩:Bk)]=(gs++ [y])++ [⟨⟨.iface t v,none,0,0,p.lineno,p.lineno⟩,[(I,cel cs E)],[],[]⟩]:=by simp
  rw[e];refine⟨b6,V,[],[],?_,?_,?_,⟨rfl,rfl⟩,?_⟩
  ·rw[lV0,lG0,<-b3];exact c2
  ·rw[bF,dO]
   show Txts _ ((txF (gs++ [y])++ []).map TX.t) V
   rw[lG0];exact k5.of (by rw[O]) (by rw[O]) (by rw[O])
  ·intro W U;rcases lP0.1 U with U|U
   ·exact k6 W U
   ·obtain rfl:=lN0.1 U;exact⟨Sl.nil 1 aO,by simp,a6,a6⟩
  ·rw[bi (gs++ [y]),dC]
   show Sat σ w (p'.at b::b6++(V++(aN (gs++ [y])++([]++([(I,cel cs E)]++([]++ [])))++([]++L))))
   exact h.re

def Bk.np (f:Bk):Prop:= ∃t v,f.ob.bd= .iface t v/\t≠ar
def Bk.box_ (f:Bk):Prop:= ∃t v,f.ob.bd= .iface t v/\t≠ar/\t≠aB
theorem Bk.box_.np {f:Bk}(h:f.box_):f.np:=by obtain⟨t,v,g,y,_⟩:=h;exact⟨t,v,g,y⟩
theorem Bk.isQuote.box_ {f:Bk}(h:f.isQuote):f.box_:=by obtain⟨y,g,_⟩:=h;exact⟨_,_,g,by decide,by decide⟩
theorem ItemOf.box_ {f:Bk}{it:OA}{lb wd:Nat}{hv:Bool}(h:ItemOf it f lb wd hv):f.box_:=by obtain⟨ib,_,g,_⟩:=h;exact⟨_,_,g,by decide,by decide⟩
theorem Bk.isListT.np {f:Bk}{it:OA}{lb:Nat}{bul num:Int}{td:Value}(h:f.isListT lb bul num it td):f.np:=⟨_,_,h.1,by decide⟩
theorem Pd.next {xs:List IN}{junk:List Bk}{lf:Leaf}(h:Pd G op xs junk lf): ∀f rest,junk=f::rest->f.np:=by
 cases h with
 |none=>intro f rest h;cases h
 |para _=>intro f rest h;cases h
 |quote a _ _=>intro f rest h;cases h;exact a.box_.np
 |list a _ _ _ _ _ _ _=>intro f rest h;cases h;exact a.np
theorem Pd.last {xs:List IN}{junk:List Bk}{lf:Leaf}(h:Pd G op xs junk lf):lf= .none-> ∀(pre:List Bk) (f:Bk),f.np-> ∃y o t v,(pre++f::junk).map Bk.ob=y++ [o]/\o.bd= .iface t v/\t≠ar:=by
 induction h with
 |none=>intro _ pre f V;obtain⟨t,v,E,I⟩:=V;exact⟨pre.map Bk.ob,f.ob,t,v,by simp,E,I⟩
 |para _=>intro h;cases h
 | @quote f junk lf xs ys a _ _ ih=>
  intro O pre U W;obtain⟨y,o,t,v,E,I⟩:=ih O (pre++ [U]) f a.box_.np;exact⟨y,o,t,v,by rw[<-E];simp,I⟩
 | @list f U junk lf lb wd bul num it items ixs xs ys a _ _ b _ _ _ _ ih=>
  intro O pre k a6;obtain⟨y,o,t,v,E,I⟩:=ih O (pre++ [k,f]) U b.box_.np;exact⟨y,o,t,v,by rw[<-E];simp,I⟩
theorem oz {b:Nat}{p:PS}{gs junk:List Bk}{top:Bk}{M:List ai}{l:Ln}(hs:Stk p ((gs++top::junk).map Bk.ob) M)(hd:p.depth=gs.length)(b4:gs.length<900000)(ht:top.np)(U: ∀f rest,junk=f::rest->f.np)(O: ∃g o t v,(gs++top::junk).map Bk.ob=g++ [o]/\o.bd= .iface t v/\t≠ar)(I:l.ok):B3 b p M l cg:=by
 intro σ w L R h y;obtain⟨t,v,t1,a7⟩:=ht;cases junk with
 |nil=>
  exact ly (d:=gs.length) (ob:=gs.map Bk.ob) (o:=top.ob) h (by simpa using hs) hd (by simp) t1 a7 I y
 |cons f rest=>
  obtain⟨g,o,b7,b6,E,V,b3⟩:=O;obtain⟨b8,b5,W,a6⟩:=U f rest rfl;rw[E] at hs;refine lA (d:=gs.length) (ob:=g) (o:=o) (o1:=f.ob) h hs hd (by omega) ?_ W a6 V (λh0=>absurd h0 b3) I y;rw[<-E];simp
theorem Fe {b:Nat}{p:PS}{gs junk:List Bk}{top:Bk}{M:List ai}{l:Ln}(hs:Stk p ((gs++top::junk).map Bk.ob) M)(hd:p.depth=gs.length)(W:gs.length<900000)(ht:top.box_)(a6: ∀f rest,junk=f::rest->f.np)(I: ∃E o t v,(gs++top::junk).map Bk.ob=E++ [o]/\o.bd= .iface t v/\t≠ar)(U:l.cont): ∀f∈newsF,B3 b p M l f:=by
 intro f O;have g:=U.plain;have V:=oz (b:=b) (l:=l) hs hd W ht.np a6 I g.ok
 obtain⟨t,v,t1,b7,b3⟩:=ht;obtain⟨E,o,b8,b6,b4,a7,b5⟩:=I;simp only[newsF,lW0,lH1,or_false] at O;intro σ w L R h y;rcases O with rfl|rfl|rfl|rfl|rfl|rfl|rfl|rfl
 ·exact iU (x:= .nilIface) h g.ok g.quote y
 ·exact l9 h g.ok g.heading y
 ·exact V σ w L R h y
 ·exact sH h g.ok g.hr y
 ·exact g.bullet b gs.length p _ top.ob M t v hs hd (by simp) t1 b3 σ w L R h y
 ·exact oB h g.ok U.lt y
 ·exact tz h g.ok g.fence y
 ·rw[b4] at hs;exact xx (ob:=E) h hs (o:=o) a7 (λh0=>absurd h0 b5) g.ok g.pre y
theorem DocC.toLeaf {b:Nat}{gs:List Bk}{f:Bk}{p:PS}{A:List OB->List ai->Prop}(h:DocC σ b L (gs++ [f]) .none p w)(E:f.D= [])(U:f.IM= [])(V:A [f.ob] f.own):DocC σ b L gs (.other A) p w:=by
 obtain⟨M,y,a6,a7,hs,ht,I,⟨rfl,rfl⟩,h⟩:=h;refine⟨M,y,[f.ob],f.own,by simpa using hs,?_,λW O=>I W (by simp[O]),V,?_⟩
 ·have:txF (gs++ [f])=txF gs:=by rw[bF,dO,E];simp[cj]
  rw[this] at ht;exact ht
 ·rw[bi,dC,E,U] at h;have h:Sat σ w (p.at b::M++(y++((aN gs++([]++(f.own++([]++ []))))++([]++L)))):=h
  exact h.re
theorem xg (c9:op.task=false){e6:OA->Nat->WP}{b b1 pb:Nat}{xs:List IN}{gs junk:List Bk}{top:Bk}{p:PS}{l:Ln}(a6:Pd G op xs junk .none)(h:DocC σ b (l.at b1::L) (gs++top::junk) .none p w)(hd:p.depth=gs.length)(b7:gs.length<900000)(ht:top.box_)(c3:l.cont)(g2: ∀g∈gs++top::junk,g.D.length<=90000)(f6:(txF (gs++top::junk)).length<=90000)(b8:p.pz=kE pb)(c1:op.at pb∈L)(b9:p.lineno<1000000000)(h1: ∀w (p':PS) y W,p'.base=p.base->p'.lineno=p.lineno->y.like top->y.D=top.D++W->TDs G op W xs->(cj W).length<=(txF junk).length+1->DocC σ b L (gs++ [y]) (pv p.lineno [l.rest]) p' w->R (hQ (.tuple #[])) w):
 ak.bl102 R e6 (kE b) b1 w:=by
 obtain⟨M,I,h4,h7,hs,d2,e0,⟨rfl,rfl⟩,h⟩:=h;rw[lG0] at hs;have h:Sat σ w (p.at b::M++(l.at b1::(I++(aN (gs++top::junk)++L)))):=h.re
 have a7:=a6.last rfl gs top ht.np;refine ve h (Fe hs hd b7 ht a6.next a7 c3) λw nb e g1 h h2=>?_
 obtain⟨g0,o,h9,h8,g3,g4,c4⟩:=a7;have e4:Stk p (g0++ [o]) M:=by rw[<-g3];exact hs
 refine d7.sound ?_;refine Sat.bx h λO w h=>?_
 refine Sat.bx h λE w h=>?_
 have h:Sat σ _ (zLn E::l.at O::(p.at b::M++(l.at b1::(nb,cel newsC e)::(I++(aN (gs++top::junk)++L))))):=h
 have h:Sat σ _ (p.at b::M++(zLn E::l.at O::(l.at b1::(nb,cel newsC e)::(I++(aN (gs++top::junk)++L))))):=h.re
 refine rC h e4 g4 (λw h=>?_) (λhc=>absurd hc c4);rw[if_neg c4];refine⟨_,rfl,?_⟩
 repeat (first|refine aa ?_|refine h.tk λw h=>?_|refine⟨_,h.ldA,?_⟩|refine⟨_,_,_,h.ldA,?_⟩)
 have h:Sat σ _ (l.at O::(p.at b::M++(zLn E::(l.at b1::(nb,cel newsC e)::(I++(aN (gs++top::junk)++L)))))):=h.re
 refine lu h (.head _) c3.plain.ok λw h=>⟨_,rfl,?_⟩
 refine⟨_,w,jI ll _ _ _ w,af rfl (af rfl ?_)⟩;have h:Sat σ _ (p.at b::(l.at O::(M++(zLn E::(l.at b1::(nb,cel newsC e)::(I++(aN (gs++top::junk)++L))))))):=h.re
 refine Sat.tk h λw h=>?_
 refine aa ?_;refine⟨_,Sat.ld h (.head _) rfl,?_⟩;rw[b8];refine aa ?_;have g5:op.at pb∈(p.at b::(l.at O::(M++(zLn E::(l.at b1::(nb,cel newsC e)::(I++(aN (gs++top::junk)++L))))))):=by simp[c1]
 refine⟨op.table,Sat.ld h g5 rfl,?_⟩;have fin:d7.k4 (λe w=>g1 e w) (kE b) E none (bs l.rest) false w:=by
  refine af rfl ⟨_,w,jI ll _ _ _ w,af rfl ?_⟩;refine Sat.bx h λU w h=>?_
  have h:Sat σ _ ((U,cel [hT none 0 0,kT none] aM)::p.at b::(l.at O::(M++(zLn E::(l.at b1::(nb,cel newsC e)::(I++(aN (gs++top::junk)++L))))))):=h
  have d0:DocC σ b ((U,cel [hT none 0 0,kT none] aM)::(zLn E::L)) (gs++top::junk) .none p w:=⟨M,I,[],[],by rw[lG0];exact hs,d2,e0,⟨rfl,rfl⟩,h.less [l.at O,l.at b1,(nb,cel newsC e)]⟩
  refine qx (pb:=pb) (a6.close c9) (.tail _ c1) b8 g2 f6 d0 hd b7 b9 λw p' y W f e7 e9 h6 k1 k2 k3 k4 g6 f0 c8 g7 h=>⟨rfl,?_⟩
  have h:=h;obtain⟨c5,b6,h3,h5,c2,b5,d1,⟨rfl,rfl⟩,h⟩:=h;have f5:aN (gs++ [y,f])=aN (gs++ [y])++ [(U,cel [hT none 0 0,kT none] aM)]:=by
   rw[show gs++ [y,f]=(gs++ [y])++ [f] by simp,bi,dC,f0,c8,g7];simp[cZ,txc,cj]
  rw[f5] at h;have h:Sat σ w (zLn E:: [(U,cel [hT none 0 0,kT none] aM)]++(p'.at b::c5++(b6++(aN (gs++ [y])++L)))):=h.re
  refine th h (ts:= []) ⟨none,0,[],Sl.nil 1 aq,rfl⟩ (by decide) λw f7 d3 h=>?_
  refine h2 w true ?_;refine h1 w p' y W e7 e9 k1 k2 k3 k4 ⟨c5,b6,[f.ob],f7,?_,?_,λg V=>d1 g (by simp at V⊢;rcases V with V|V<;>simp[V]),⟨U,p.lineno,by rw[g6];rfl,d3,b9,by simp,by simp⟩,h.re⟩
  ·have e8:(gs++ [y,f]).map Bk.ob++ []=(gs++ [y]).map Bk.ob++ [f.ob]:=by simp
   rw[e8] at c2;exact c2
  ·have:txF (gs++ [y,f])=txF (gs++ [y]):=by rw[show gs++ [y,f]=(gs++ [y])++ [f] by simp,bF,dO,c8];simp[cj]
   rw[this] at b5;exact b5
 refine bh (λ_=>⟨_,jI ll _ _ _,af rfl fin⟩) (λ_=>fin)

def DocE (σ:Out)(b:Nat)(L:List ai)(ex:List TX)(fs:List Bk)(p:PS)(w:World):Prop:=
 ∃M E g y,Stk p (fs.map Bk.ob++g) M/\Txts p ((txF fs++ex).map TX.t) E/\(∀f∈fs,f.ok)/\Ee .none g y/\Sat σ w (p.at b::M++(E++(aN fs++(y++L))))
theorem qI {X:OA->Int->WP}{b k:Nat}{ex:List TX}{fs:List Bk}{p:PS}(U: ∀y E w,aI.bl1 R X y E w->X y E w)(h:DocE σ b L ex fs p w)(b3:k<fs.length)(hc:callE P aJ #[kT (kE b)] (λe O=> ∃(I:Value),e= hQ I/\X (kE b) (k:Int) O) w):X (kE b) (k:Int) w:=by
 obtain⟨M,a6,V,a7,hs,ht,W,b4,h⟩:=h;have g:=hs.2.1;rw[lA0,lQ0] at g;refine U _ _ _ (aa ?_);refine⟨_,_,_,h.ldA,?_⟩;rw[g];exact ag (by simp;omega) hc
theorem DocE.closed {ex:List TX}{b:Nat}{gs:List Bk}{par f:Bk}{p2:PS}{W y O:List ai}{V:Option Addr}{U:Nat}{d:DB}{I:List ai}(a7: ∀g∈gs++ [par,f],Bk.ok g)(b7:par.D.length<99999)(b4:Stk p2 (gs.map Bk.ob++ [{par.ob with q:=V,n:=par.ob.n+1,c:=U}]) W)(b3:Sl 1 aO V (par.ob.n+1) U (par.D.map DB.v++ [d.v]) y)(ht:Txts p2 ((txF (gs++ [par,f])++ex).map TX.t) O)(a6:d.txs=cj f.D)(h:Sat σ w (p2.at b::W++(y++(O++(aN gs++(I++(cZ par.D++(txc par.D++(d.own++(txc f.D++L)))))))))):
 DocE σ b L ex (gs++ [⟨{par.ob with q:=V,n:=par.ob.n+1,c:=U},I,par.D++ [d],y⟩]) p2 w:=by
 refine⟨W,O,[],[],?_,?_,?_,⟨rfl,rfl⟩,?_⟩
 ·rw[lV0,lG0];exact b4
 ·have e:txF (gs++ [⟨{par.ob with q:=V,n:=par.ob.n+1,c:=U},I,par.D++ [d],y⟩])=txF (gs++ [par,f]):=by
   rw[bF,bF,dO,vq,j4,a6]
  rw[e];exact ht
 ·intro g E;rcases lP0.1 E with E|E
  ·exact a7 g (by simp[E])
  ·obtain rfl:=lN0.1 E;obtain⟨_,b6,b5⟩:=a7 par (by simp);exact⟨by rw[lV0];exact b3,by simp;omega,b5⟩
 ·rw[bi,dC,l8,ow,a6]
  show Sat σ w (p2.at b::W++(O++(aN gs++(y++(I++((cZ par.D++d.own)++(txc par.D++txc f.D))))++([]++L))))
  exact h.re
theorem zL {ex:List TX}{b:Nat}{gs:List Bk}{par f:Bk}{p:PS}(h:DocE σ b L ex (gs++ [par,f]) p w)(b4:f.isQuote)(b6:par.D.length<99999)(b7: ∀w g nb x,g.like par->g.D=par.D++ [oT nb f.ob.s f.ob.e f.ob.q f.ob.n f.ob.c f.IM f.D]->DocE σ b L ex (gs++ [g]) {p with stn:=gs.length+1} w->R (hQ x) w):
 callE P aJ #[kT (kE b)] R w:=by
 obtain⟨M,b5,b9,c2,hs,ht,I,⟨rfl,rfl⟩,h⟩:=h;obtain⟨U,E,V⟩:=b4;have hs:Stk p (gs.map Bk.ob++ [par.ob]++ [f.ob]) M:=by simpa using hs
 have y:=(I par (by simp)).1;have c1:par.ob.n=par.D.length:=by have:=y.1;simp at this;omega
 rw[bi,j8,V] at h;refine jp h hs E λw h=>?_
 rw[E];refine bq nF ?_;refine pU h hs λw nb h=>⟨_,rfl,none,false,w,kC (by decide) w,af rfl ?_⟩
 have h:Sat σ w (p.at b::M++(par.IM++(b5++(aN gs++(par.own++(cZ par.D++(txc par.D++((EN nb f.ob.s f.ob.e f.ob.q f.ob.n f.ob.c::(f.IM++cZ f.D))++(txc f.D++(GG U::L)))))))))):=h.re
 refine mm h hs y (by omega) λw p2 c3 a7 b8 b3 W O a6 h=>?_
 have e:p2= {p with stn:=gs.length+1}:=by rw[W,lQ0]
 rw[e] at O h;refine b7 w ⟨{par.ob with q:=b8,n:=par.ob.n+1,c:=b3},par.own,par.D++ [oT nb f.ob.s f.ob.e f.ob.q f.ob.n f.ob.c f.IM f.D],a7⟩ nb _ ⟨rfl,rfl,rfl,rfl⟩ rfl (DocE.closed (par:=par) (f:=f) (d:=oT nb f.ob.s f.ob.e f.ob.q f.ob.n f.ob.c f.IM f.D) I b6 O a6 (ht.of rfl rfl rfl) rfl ?_);exact h.less [GG U] (by intro _;simp only[oT,lP3,dJ,ff,mS]<;>omega)
theorem BE {ex:List TX}{b lb wd:Nat}{hv:Bool}{bul num:Int}{it:Option Addr}{td:Value}{gs:List Bk}{par f:Bk}{p:PS}(h:DocE σ b L ex (gs++ [par,f]) p w)(b8:f.isItem lb wd hv)(c1:par.isListT lb bul num it td)(b9:par.D.length<99999)(c2: ∀w g nb x,g.isListT lb bul num none td->g.ob.s=par.ob.s->g.ob.e=par.ob.e->g.D=par.D++ [(IT.mk nb f.ob.s f.ob.e f.ob.q f.ob.n f.ob.c wd f.IM f.D).db]->(IT.mk nb f.ob.s f.ob.e f.ob.q f.ob.n f.ob.c wd f.IM f.D).ok->DocE σ b L ex (gs++ [g]) {p with stn:=gs.length+1} w->R (hQ x) w):
 callE P aJ #[kT (kE b)] R w:=by
 obtain⟨M,E,c4,c9,hs,ht,y,⟨rfl,rfl⟩,h⟩:=h;obtain⟨ib,O,a6⟩:=b8;obtain⟨b5,a7⟩:=c1;have hs:Stk p (gs.map Bk.ob++ [par.ob]++ [f.ob]) M:=by simpa using hs
 have I:=(y par (by simp)).1;obtain⟨W,c5,V⟩:=y f (by simp);have c8:par.ob.n=par.D.length:=by have:=I.1;simp at this;omega
 rw[bi,j8,a6,a7] at h;refine jp h hs O λw h=>?_
 rw[O];have h:Sat σ w (p.at b::M++(gC ib lb wd hv::cP lb bul num false it td::(par.IM++(E++(aN gs++(cZ par.D++(txc par.D++(f.IM++(cZ f.D++(txc f.D++L)))))))))):=h.re
 refine bq pa ?_;refine rP h hs λw nb h=>⟨_,rfl,none,false,w,kC (by decide) w,af rfl ?_⟩
 have h:Sat σ w (p.at b::M++(par.IM++(E++(aN gs++([cP lb bul num false none td]++(cZ par.D++(txc par.D++(((IT.mk nb f.ob.s f.ob.e f.ob.q f.ob.n f.ob.c wd f.IM f.D).chunk::(f.IM++cZ f.D))++(txc f.D++L))))))))):=by
  have h:Sat σ w (p.at b::M++((IT.mk nb f.ob.s f.ob.e f.ob.q f.ob.n f.ob.c wd f.IM f.D).chunk::cP lb bul num false none td::(par.IM++(E++(aN gs++(cZ par.D++(txc par.D++(f.IM++(cZ f.D++(txc f.D++L)))))))))):=h
  exact h.re
 refine mm h hs I (by omega) λw p2 d0 b6 c3 b7 b3 U b4 h=>?_
 have e:p2= {p with stn:=gs.length+1}:=by rw[b3,lQ0]
 rw[e] at U h;refine c2 w ⟨{par.ob with q:=c3,n:=par.ob.n+1,c:=b7},[cP lb bul num false none td],par.D++ [(IT.mk nb f.ob.s f.ob.e f.ob.q f.ob.n f.ob.c wd f.IM f.D).db],b6⟩ nb _ ⟨b5,rfl⟩ rfl rfl rfl ⟨W,by show f.D.length<1000000;omega,V⟩ (DocE.closed (par:=par) (f:=f) (d:=(IT.mk nb f.ob.s f.ob.e f.ob.q f.ob.n f.ob.c wd f.IM f.D).db) y b9 U b4 (ht.of rfl rfl rfl) rfl ?_);exact h
theorem BB {ex:List TX}{b lb pb:Nat}{op:Opt}{bul num:Int}{it:Option Addr}{gs:List Bk}{par f:Bk}{p:PS}{items:List IT}{pos:DB->Nat × Nat}(h:DocE σ b L ex (gs++ [par,f]) p w)(e1:f.isList lb bul num it)(E:f.D=items.map IT.db)(d2:items≠ [])(O: ∀i∈items,i.ok/\ ∀d∈i.D,d.kindOK/\d.posIs (pos d).1 (pos d).2/\(pos d).1<1000000000/\(pos d).2<2000000000)(c9:p.pz=kE pb)(d0:op.at pb∈L)(c1:op.task=false)(e3:par.D.length<99999)(e5: ∀w (p':PS) V nb e g x,p'.base=p.base->p'.depth=p.depth->p'.lineno=p.lineno->p'.stn=gs.length+1->V.like par->Tgh (mN pos items) items g->((∃i∈items,e=i.e)/\items.getLast?.map IT.e=some e)->V.D=par.D++ [qX nb f.ob.s e bul num (mN pos items) f.ob.q f.ob.n f.ob.c f.IM g]->
  DocE σ b L ex (gs++ [V]) p' w->R (hQ x) w):
 callE P aJ #[kT (kE b)] R w:=by
 obtain⟨M,a7,e7,f1,hs,ht,a6,⟨rfl,rfl⟩,h⟩:=h;obtain⟨b7,c3⟩:=e1;have hs:Stk p (gs.map Bk.ob++ [par.ob]++ [f.ob]) M:=by simpa using hs
 have b4:=(a6 par (by simp)).1;obtain⟨U,b5,c2⟩:=a6 f (by simp);have e9:par.ob.n=par.D.length:=by have:=b4.1;simp at this;omega
 have c8:f.D.map DB.v=items.map IT.v:=by rw[E];simp[Function.comp_def,IT.db]
 rw[c8] at U;have f0:items.length<100000:=by rw[E] at b5;simpa using b5
 have e8:txc f.D=(cj (items.map IT.db)).map TX.chunk:=by rw[E];rfl
 rw[bi,j8,c3,E] at h;refine jp h hs b7 λw h=>?_
 rw[b7];have h:Sat σ w (p.at b::M++(cP lb bul num false it .nilFunc::(f.IM++(cZ (items.map IT.db)++(par.IM++(a7++(aN gs++(par.own++(cZ par.D++(txc par.D++(txc (items.map IT.db)++L))))))))))):=h.re
 refine bq o9 ?_;refine rO (pos:=pos) h hs U d2 (by omega) c2.1 O λw nb e g W d3 h=>⟨_,rfl,kE nb,true,w,o7 (by rw[nj];intro f3 h;cases h) nj w,ag rfl (aa ?_)⟩
 have b6:g.map IT.v=items.map IT.v:=by
  rcases W with ⟨_,rfl⟩|⟨_,hr⟩
  ·rfl
  ·exact hr.vs
 have b3:cj (g.map IT.db)=cj (items.map IT.db)/\ ∀i∈g,i.ok/\ ∀d∈i.D,d.ifc:=by
  rcases W with ⟨_,rfl⟩|⟨_,hr⟩
  ·exact⟨rfl,λi hi=>⟨(O i hi).1,λd hd=>((O i hi).2 d hd).1.ifc.1⟩⟩
  ·exact hr.facts λi hi d hd=>((O i hi).2 d hd).1
 have b9:g.length<1000000:=by have:=congrArg List.length b6;simp at this;omega
 have k2: ∀(y:Bool) w,Sat σ w (({p with corner:=y}:PS).at b::M++(uo nb f.ob.s e bul num (mN pos items) f.ob.q f.ob.n f.ob.c::(f.IM++(cZ (g.map IT.db)++(par.IM++(a7++(aN gs++(par.own++(cZ par.D++(txc par.D++(txc (items.map IT.db)++L)))))))))))->
  aK.k2 R (kE b) (.iface dn (kT (kE nb))) (kE nb) w:=by
  intro y w h;refine aa ⟨_,Sat.ld h (.head _) (i:=0) rfl,?_⟩;rw[c9];refine aa ⟨_,Sat.ld h (by simp[d0]:op.at pb∈_) rfl,af c1 ?_⟩;have h:Sat σ w (({p with corner:=y}:PS).at b::M++(par.IM++(a7++(aN gs++(par.own++(cZ par.D++(txc par.D++((uo nb f.ob.s e bul num (mN pos items) f.ob.q f.ob.n f.ob.c::(f.IM++cZ (g.map IT.db)))++(txc f.D++L))))))))):=by
   rw[E];exact h.re
  refine mm h (hs.of rfl rfl rfl) b4 (by omega) λw p2 f2 d1 e6 e0 c4 b8 c5 h=>?_
  have e4:p2= {p with corner:=y,stn:=gs.length+1}:=by rw[c4,lQ0]
  rw[e4] at b8 h;refine e5 w {p with corner:=y,stn:=gs.length+1} ⟨{par.ob with q:=e6,n:=par.ob.n+1,c:=e0},par.own,par.D++ [qX nb f.ob.s e bul num (mN pos items) f.ob.q f.ob.n f.ob.c f.IM g],d1⟩ nb e g _ rfl rfl rfl rfl ⟨rfl,rfl,rfl,rfl⟩ W d3 rfl
   (DocE.closed (par:=par) (f:=f) (d:=qX nb f.ob.s e bul num (mN pos items) f.ob.q f.ob.n f.ob.c f.IM g) a6 e3 b8 c5 (ht.of rfl rfl rfl) ?_ ?_)
  ·rw[E];exact b3.1
  ·exact h
 refine⟨_,Sat.ld h (.head _) (i:=6) rfl,bh (λ_=>aa ?_) λ_=>?_⟩
 ·refine Sat.st h (k:=0) rfl (by simp[PS.cells]) trivial rfl λw h=>?_
  exact k2 true w h
 ·refine p8 (nb:=nb) (s:=f.ob.s) (e:=e) (bul:=bul) (num:=num) (loose:=mN pos items) (items:=g) (b6▸U) b3.2 b9 h (λx I=>?_) λy=>⟨_,rfl,aa ?_⟩
  ·rcases lW0.1 I with rfl|I
   ·simp
   ·rcases lP0.1 I with I|I<;>simp[I]
  ·refine Sat.st h (k:=0) rfl (by simp[PS.cells]) trivial rfl λw h=>?_
   exact k2 y w h
def Eh (G:List UInt8->List Inl)(op:Opt)(xs:List IN)(junk:List Bk):Prop:=
 ∀(σ:Out) (R:Ending->World->Prop) (L:List ai) (ex:List TX) (b pb:Nat) (p:PS) (w:World) (X:OA->Int->WP) (gs:List Bk) (top:Bk) (k:Nat),(∀I E w,aI.bl1 R X I E w->X I E w)->op.at pb∈L->p.pz=kE pb->k<=gs.length+1->
  (∀O∈gs++top::junk,O.D.length<=90000)->(txF (gs++top::junk)).length<=90000->DocE σ b L ex (gs++top::junk) p w->
  (∀w (p':PS) y l,p'.base=p.base->p'.depth=p.depth->p'.lineno=p.lineno->y.like top->y.D=top.D++l->TDs G op l xs->(cj l).length<=(txF junk).length+1->DocE σ b L ex (gs++ [y]) p' w->X (kE b) (k:Int) w)->X (kE b) (k:Int) w
theorem Pd.closeE (f7:op.task=false){xs:List IN}{junk:List Bk}{lf:Leaf}(h:Pd G op xs junk lf)(d0:lf= .none):Eh G op xs junk:=by
 induction h with
 |none=>
  intro σ R L ex b pb p w X gs top k U b4 a7 f6 O W h b5;exact b5 w p top [] rfl rfl rfl (.refl top) (by simp) .nil (by simp[cj]) h
 |para _=>cases d0
 | @quote f junk lf xs ys hq hxs hys ih=>
  intro σ R L ex b pb p w X gs top k U b4 a7 f6 O W h b5;have e0:gs++top::f::junk=(gs++ [top])++f::junk:=by simp
  rw[e0] at O W h;have g3:=O top (by simp);refine ih d0 σ R L ex b pb p w X (gs++ [top]) f k U b4 a7 (by simp;omega) O W h λw p' y l b1 b2 e9 V a6 c8 g6 h=>?_
  have h:DocE σ b L ex (gs++ [top,y]) p' w:=by simpa using h
  have I:y.ok:=by obtain⟨_,_,_,_,_,_,d1,_⟩:=h;exact d1 y (by simp)
  have d2:y.ob.n<1000000:=by have:=I.1.1;have:=I.2.1;simp at*;omega
  refine qI U h (by simp;omega) ?_;refine zL h (V.quote hq) (by omega) λw c5 nb x ht b8 h=>⟨_,rfl,?_⟩
  refine b5 w {p' with stn:=gs.length+1} c5 _ b1 b2 e9 ht b8 ?_ ?_ h
  rotate_left
  ·have b6:cj [oT nb y.ob.s y.ob.e y.ob.q y.ob.n y.ob.c y.IM y.D]=cj f.D++cj l:=by rw[<-di,<-a6];simp[cj,oT]
   have d3:txF (f::junk)=cj f.D++txF junk:=by simp[txF]
   rw[b6,d3,lA0,lA0];omega
  have:=z7 (nb:=nb) (s:=y.ob.s) (e:=y.ob.e) I.1 d2 ⟨I.2.2.1,by have:=I.2.2.2;omega⟩ (by rw[a6];exact hxs.append c8)
  rw[V.2.1,V.2.2.1] at this⊢;exact .cons this .nil
 | @list f g junk lf lb wd bul num it items ixs xs ys hf hfD hit hg hwd hu hxs hys ih=>
  intro σ R L ex b pb p w X gs top k U b4 a7 f6 O W h b5;have e0:gs++top::f::g::junk=(gs++ [top,f])++g::junk:=by simp
  rw[e0] at O W h;have g3:=O top (by simp);have h8:=O f (by simp);refine ih d0 σ R L ex b pb p w X (gs++ [top,f]) g k U b4 a7 (by simp;omega) O W h λw p' E l b1 b2 e9 V a6 c8 g6 h=>?_
  have h:DocE σ b L ex (gs++ [top]++ [f,E]) p' w:=by simpa using h
  refine qI U h (by simp;omega) ?_;refine BE h (V.itemOf hg).item hf (by omega) λw y nb x g2 f4 h7 b8 f1 h=>⟨_,rfl,?_⟩
  generalize c9:IT.mk nb E.ob.s E.ob.e E.ob.q E.ob.n E.ob.c wd E.IM E.D=ii at b8 f1;have b7:ItR G op (items++ [ii]) (ixs++ [.mk {kind:=4,width:=wd,s:=g.ob.s,e:=g.ob.e} (xs++ys)]):=by
   refine hit.append ?_;have:=ItR.cons (G:=G) (op:=op) (i:=ii) (xs:=xs++ys) f1 (by rw[<-c9];show TDs G op E.D (xs++ys);rw[a6];exact hxs.append c8) .nil
   rw[<-c9] at this⊢;have e8:(IT.mk nb E.ob.s E.ob.e E.ob.q E.ob.n E.ob.c wd E.IM E.D).s=g.ob.s:=V.2.1;have b6:(IT.mk nb E.ob.s E.ob.e E.ob.q E.ob.n E.ob.c wd E.IM E.D).e=g.ob.e:=V.2.2.1;rw[e8,b6] at this;exact this
  have h:DocE σ b L ex (gs++ [top,y]) {p' with stn:=(gs++ [top]).length+1} w:=by simpa using h
  have I:y.ok:=by obtain⟨_,_,_,_,_,_,d1,_⟩:=h;exact d1 y (by simp)
  have f2:y.D=(items++ [ii]).map IT.db:=by rw[b8,hfD];simp
  have d2:y.ob.n<1000000:=by have:=I.1.1;have:=I.2.1;simp at*;omega
  refine qI U h (by simp;omega) ?_;refine BB (op:=op) (pb:=pb) (items:=items++ [ii]) (pos:=wD) h g2 f2 (by simp) b7.facts (by rw[<-a7];exact pJ b1) b4 f7 (by omega) λw p2 c5 g5 e8 b9 x h1 h4 h5 h9 ht f3 f5 g4 h=>⟨_,rfl,?_⟩
  refine b5 w p2 c5 _ (h1.trans b1) (h4.trans b2) (h5.trans e9) ht g4 (.cons ?_ .nil) ?_ h
  rotate_left
  ·have b6:cj [qX g5 y.ob.s e8 bul.toNat num (mN wD (items++ [ii])) y.ob.q y.ob.n y.ob.c y.IM b9]=cj (b9.map IT.db):=by simp[cj,qX]
   have h2:(cj (b9.map IT.db))=cj ((items++ [ii]).map IT.db):=by
    rcases f3 with ⟨_,rfl⟩|⟨_,hr⟩
    ·rfl
    ·exact(hr.facts λi hi d hd=>((b7.facts i hi).2 d hd).1).1
   have h3:cj ii.D=cj g.D++cj l:=by rw[<-c9,<-di,<-a6]
   have h6:cj ((items++ [ii]).map IT.db)=cj f.D++(cj g.D++cj l):=by rw[lV0,di,<-hfD,<-h3];simp[cj,IT.db]
   have d3:txF (f::g::junk)=cj f.D++(cj g.D++txF junk):=by simp[txF]
   rw[b6,h2,h6,d3];simp only[lA0];omega
  have f0:=I.1;rw[f2] at f0;have g1:((items++ [ii]).map IT.db).map DB.v=(items++ [ii]).map IT.v:=by simp[Function.comp_def,IT.db]
  rw[g1] at f0;rw[f4];refine Cp hu f0 d2 ⟨f4▸I.2.2.1,?_⟩ b7 f3 f5.2;obtain⟨g7,g0,rfl⟩:=f5.1;have:=(b7.facts g7 g0).1.se.2;omega
theorem Gn {ex:List TX}{xs:List IN}{junk:List Bk}{b pb:Nat}{p:PS}{gs:List Bk}{top:Bk}(b5:Eh G op xs junk)(a6:op.at pb∈L)(W:p.pz=kE pb)(c1: ∀g∈gs++top::junk,g.D.length<=90000)(b7:(txF (gs++top::junk)).length<=90000)(h:DocE σ b L ex (gs++top::junk) p w)(c2: ∀w (p':PS) y l,p'.base=p.base->p'.depth=p.depth->p'.lineno=p.lineno->y.like top->y.D=top.D++l->TDs G op l xs->(cj l).length<=(txF junk).length+1->DocE σ b L ex (gs++ [y]) p' w->R (hQ (.tuple #[])) w):
 callE P bm #[kT (kE b),hY ((gs.length+1:Nat):Int)] R w:=by
 refine aI.sound ?_;have h0:=h;obtain⟨M,b9,O,b6,hs,ht,a7,⟨rfl,rfl⟩,h⟩:=h;have E:=hs.2.1;simp only[lA0,lQ0,lF0,lM1,lL1] at E;refine aa ?_;refine⟨_,_,_,h.ldA,?_⟩;rw[E];refine af (by simp;omega) ?_;intro X I;refine b5 σ R L ex b pb p w X gs top (gs.length+1) I a6 W (lE1 _) c1 b7 h0 λw p' y l b1 b2 c3 b8 V U b4 h=>?_
 have h0:=h;obtain⟨M,b9,O,b6,hs,ht,a7,⟨rfl,rfl⟩,h⟩:=h;have E:=hs.2.1;simp only[lA0,lQ0,lF0,lM1,lL1] at E;refine I _ _ _ (aa ?_);refine⟨_,_,_,h.ldA,?_⟩;rw[E];exact af (by simp) (c2 w p' y l b1 b2 c3 b8 V U b4 h0)
theorem rm {b pb:Nat}{xs:List IN}{junk:List Bk}{p:PS}{gs:List Bk}{top:Bk}{d:DB}{b7:TypeId}{q:OA}(e0:Eh G op xs junk)(d0:op.at pb∈L)(c9:p.pz=kE pb)(c2: ∀g∈gs++top::junk,g.D.length<=90000)(e3:(txF (gs++top::junk)).length<=90000)(h:DocE σ b (d.own++(d.txs.map TX.chunk++L)) d.txs (gs++top::junk) p w)(hd:p.depth=gs.length)(e8:gs.length<900000)(hv:d.v= .iface b7 (kT q))(e9:xs.length<=1)(e5: ∀w (p':PS) a7 l,p'.base=p.base->p'.depth=p.depth->p'.lineno=p.lineno->a7.like top->a7.D=top.D++(l++ [d])->TDs G op l xs->(cj l).length<=(txF junk).length+1->DocC σ b L (gs++ [a7]) .none p' w->R (hQ (.tuple #[])) w):
 callE P dS #[kT (kE b),.iface b7 (kT q)] R w:=by
 refine gw.sound ?_;have h0:=h;obtain⟨M,U,c5,e1,hs,ht,b5,⟨rfl,rfl⟩,h⟩:=h;refine aa ⟨_,Sat.ld h (.head _) (i:=5) rfl,?_⟩;have e:i64.wrap (p.depth+1)=((gs.length+1:Nat):Int):=by rw[hd,i64_in _ (by omega)];omega
 rw[e];refine Gn (pb:=pb) e0 (lB0 _ (lB0 _ d0)) c9 c2 e3 h0 λw O y l b1 b2 e6 a6 c1 b9 d2 h=>⟨rfl,?_⟩
 obtain⟨M,U,c5,e1,hs,ht,b5,⟨rfl,rfl⟩,h⟩:=h;rw[lG0,lV0] at hs;have hs:Stk O (gs.map Bk.ob++ [y.ob]) M:=hs;have b6:=hs.2.1;rw[lA0,lQ0,lE0] at b6;have b8:=b5 y (by simp);have c3:=b8.1;have f0:y.ob.n=y.D.length:=by have:=c3.1;simp at this;omega
 have e7:y.D.length<=90001:=by
  have f1:=c2 top (by simp);have f2:=b9.len;rw[c1,lA0];omega
 obtain⟨sb,sp,c4,rfl,d1⟩:=hs.split (by simp);have b4:(gs.map Bk.ob).length=gs.length:=by simp
 have h:Sat σ w (O.at b::(sb,cel (aP (gs.map Bk.ob++ [y.ob])++sp) az)::(U++(aN (gs++ [y])++(d.own++(d.txs.map TX.chunk++L))))):=h.re
 refine h.tk λw h=>?_
 refine aa (aa ?_);refine⟨_,_,_,h.ldA,?_⟩;refine⟨_,_,_,h.ldA,?_⟩;rw[b6,show i64.wrap (((gs.length+1:Nat):Int) - 1)=((gs.length:Nat):Int) by rw[i64_in _ (by omega)];omega,c4];refine⟨by omega,by omega,aa ?_⟩;simp only[lL0,lO0,lC0,lL1];refine⟨_,_,_,Sat.ld h (.tail _ (.head _)) (fD (j:=gs.length) (f:=1) (by decide) (by rw[<-b4];exact iO (l:=gs.map Bk.ob) y.ob)),?_⟩;rw[bi,dC] at h;have h:Sat σ _ (y.IM++(O.at b::(sb,cel (aP (gs.map Bk.ob++ [y.ob])++sp) az)::(U++(aN gs++(y.own++(cZ y.D++txc y.D))++(d.own++(d.txs.map TX.chunk++L)))))):=h.re
 refine Sat.app1 rowBlock c3 h (v:= .iface b7 (kT q)) rfl (by simp[Value.cells,Value.oneCell']) (by kernel_rfl) (by omega) (by omega) (by decide) λI E w V c8 h=>?_
 have h:Sat σ _ (O.at b::(sb,cel (aP (gs.map Bk.ob++ [y.ob])++sp) az)::(V++(U++(aN gs++(y.own++(cZ y.D++txc y.D))++(d.own++(d.txs.map TX.chunk++L)))))):=h.re
 refine Sat.st h (k:=1) rfl (by rw[lA0,aR,lA0,b4,lE0];omega) trivial rfl λw h=>?_
 have e4:(aP (gs.map Bk.ob++ [y.ob])++sp).set (gs.length*4+1) (hT I (y.ob.n+1) E)=aP (gs.map Bk.ob++ [{y.ob with q:=I,n:=y.ob.n+1,c:=E}])++sp:=by
  have:=lO (l:=gs.map Bk.ob) (sp:=sp) (o:=y.ob) (o':= {y.ob with q:=I,n:=y.ob.n+1,c:=E}) (f:=1) (v:= hT I (y.ob.n+1) E) (by decide) rfl
  rw[b4] at this;exact this
 have h:Sat σ w (O.at b::(sb,cel (aP (gs.map Bk.ob++ [{y.ob with q:=I,n:=y.ob.n+1,c:=E}])++sp) az)::(V++(U++(aN gs++(y.own++(cZ y.D++txc y.D))++(d.own++(d.txs.map TX.chunk++L)))))):=by
  rw[<-e4];exact h
 have d3:Stk O (gs.map Bk.ob++ [{y.ob with q:=I,n:=y.ob.n+1,c:=E}]) [(sb,cel (aP (gs.map Bk.ob++ [{y.ob with q:=I,n:=y.ob.n+1,c:=E}])++sp) az)]:=by
  refine Stk.mk' c4 ?_ (by rw[b6];simp) (by simp;omega);rw[<-d1];simp only[lA0,aR,lE0,lM1]
 refine e5 w O ⟨{y.ob with q:=I,n:=y.ob.n+1,c:=E},y.own,y.D++ [d],V⟩ l b1 b2 e6 ⟨a6.1,a6.2.1,a6.2.2.1,a6.2.2.2⟩ (by show y.D++ [d]=_;rw[c1,lD0]) b9 d2 ?_;refine⟨_,U,[],[],by rw[lV0,lG0];exact d3,?_,?_,⟨rfl,rfl⟩,?_⟩
 ·have:txF (gs++ [⟨{y.ob with q:=I,n:=y.ob.n+1,c:=E},y.own,y.D++ [d],V⟩])=txF (gs++ [y])++d.txs:=by
   rw[bF,bF,dO,dO,j4,lD0]
  rw[this];exact ht
 ·intro g W;rcases lP0.1 W with W|W
  ·exact b5 g (by simp[W])
  ·obtain rfl:=lN0.1 W;refine⟨?_,by simp;omega,b8.2.2⟩
   show Sl 1 aO I (y.ob.n+1) E ((y.D++ [d]).map DB.v) V
   rw[lV0,List.map_singleton,hv];exact c8
 ·rw[bi,dC,l8,ow];exact h.re
namespace dZ
def k1 (R:EP)(y:BA)(g:Int)(w:World):Prop:=0<=g/\g<=(y.size:Int)/\R (hQ (hX (y.extract 0 (Int.toNat g)))) w
def bl2 (R:EP)(Xa:BA->BA->Int->WP)(V:BA->BA->Int->Bool->Int->WP)(E I:BA)(g:Int)(O:Bool)(y:Int)(w:World):Prop:=br (decide (y<(I.size:Int))) (tk w λU=>0<=y/\y<(I.size:Int)/\0<=(i64.wrap (g - 1))/\(i64.wrap (g - 1))<(E.size:Int)/\br ((bt I y)==(bt E (i64.wrap (g - 1)))) (False) (V E I g O (i64.wrap (y+1)) U)) (br (!O) (k1 R E g w) (False))
def l2 (R:EP)(Xa:BA->BA->Int->WP)(E I:BA)(g:Int)(y:Bool)(O:Int)(w:World):Prop:=∀X:BA->BA->Int->Bool->Int->WP,(∀E I g y O w,bl2 R Xa X E I g y O w->X E I g y O w)->X E I g y O w
def bl1 (R:EP)(Xa:BA->BA->Int->WP)(E y:BA)(g:Int)(w:World):Prop:=br (decide (g>0)) (l2 R Xa E y g false 0 w) (False)
def l1 (R:EP)(E y:BA)(g:Int)(w:World):Prop:=∀X:BA->BA->Int->WP,(∀E y g w,bl1 R X E y g w->X E y g w)->X E y g w
end dZ
def dZ (R:EP)(g y:BA)(w:World):Prop:=dZ.l1 R g y (g.size:Int) w
theorem dZ.sound {R x0 x1 w}(h:dZ R x0 x1 w):callE P mE #[hX x0,hX x1] R w:=
 aG [(19,.lp [1,21,107] (dZ.bl1 R) λXa=> [(14,.no),(85,.lp [1,21,107,120,147] (dZ.bl2 R Xa) λg=> [(17,.dr (rpN [0,3,6,9,12,15,18,21])),(41,.no)]),(237,.no)]),(15,.mk [1,107] (dZ.k1 R))] Tryz.func188 Tryz.call188 h
namespace cy
def k1 (R:EP)(y:BA)(g:Int)(w:World):Prop:=0<=g/\g<=(y.size:Int)/\R (hQ (hX (y.extract 0 (Int.toNat g)))) w
def bl1 (R:EP)(Xa:BA->Int->WP)(y:BA)(g:Int)(w:World):Prop:=((decide (g>0))=true->0<=(i64.wrap (g - 1))/\(i64.wrap (g - 1))<(y.size:Int))/\(((decide (g>0)) && (!((bt y (i64.wrap (g - 1)))==32)))=true->0<=(i64.wrap (g - 1))/\(i64.wrap (g - 1))<(y.size:Int))/\br ((decide (g>0)) && (((bt y (i64.wrap (g - 1)))==32)||((bt y (i64.wrap (g - 1)))==9))) (Xa y (i64.wrap (g - 1)) w) (k1 R y g w)
def l1 (R:EP)(y:BA)(g:Int)(w:World):Prop:=∀X:BA->Int->WP,(∀y g w,bl1 R X y g w->X y g w)->X y g w
end cy
def cy (R:EP)(g:BA)(w:World):Prop:=cy.l1 R g (g.size:Int) w
theorem cy.sound {R x0 w}(h:cy R x0 w):callE P fM #[hX x0] R w:=
 aG [(19,.lp [1,67] (cy.bl1 R) λXa=> []),(15,.mk [1,67] (cy.k1 R))] Tryz.func187 Tryz.call187 h

theorem sub_le (s:List UInt8)(i:Nat):(sub s i (i+1)).length<=1:=by
 unfold sub;rw[lJ1,lY0];omega

theorem uB {l:List UInt8}(a6:l.length<4611686018427387904)(h:R (hQ (hX (bs (wM cO l)))) w):callE P fM #[hX (bs l)] R w:=by
 refine cy.sound ?_;intro Y E;rw[aF];refine HK (l:=l) (X:=λj=>Y (bs l) (j:Int) w) (p:=cO) (λi hi I U=>E _ _ _ ?_) l.length (lE1 _) (λj W O V=>E _ _ _ ?_)
 ·have hd:=gR (n:=i+1) (by omega) (by omega);rw[lF3] at hd;refine⟨λ_=>?_,λ_=>?_,ag ?_ ?_⟩
  ·rw[hd];exact⟨by omega,by simp;omega⟩
  ·rw[hd];exact⟨by omega,by simp;omega⟩
  ·rw[hd,dh hi 32 32 rfl,dh hi 9 9 rfl];simp only[cO] at I;rw[I];simp
  ·rw[hd];exact U
 ·have g:cy.k1 R (bs l) (j:Int) w:=by
   refine⟨by omega,by simp;omega,?_⟩;rw[bV];simp only[lC0,lO2,V,lP2];exact h
  rcases lM4 j with y|y
  ·subst y;exact⟨λh=>by simp at h,λh=>by simp at h,af (by simp) g⟩
  ·obtain⟨i,rfl⟩: ∃i,j=i+1:=⟨j - 1,by omega⟩
   have hd:=gR (n:=i+1) (by omega) (by omega);rw[lF3] at hd;refine⟨λ_=>?_,λ_=>?_,af ?_ g⟩
   ·rw[hd];exact⟨by omega,by simp;omega⟩
   ·rw[hd];exact⟨by omega,by simp;omega⟩
   ·rw[hd,dh (show i<l.length by omega) 32 32 rfl,dh (show i<l.length by omega) 9 9 rfl];have:=O i (by omega) rfl;simp only[cO] at this;rw[this];simp

theorem ug {m:List UInt8}{d:UInt8}(hs:m.length<1000000000)(hd:d≠35)(h:Sat σ w L)(O: ∀w,Sat σ w L->R (hQ (hX (bs (m++ [d])))) w):callE P mE #[hX (bs (m++ [d])),hX (bs [35])] R w:=by
 refine dZ.sound ?_;intro X W;have g:(m++ [d]).length=m.length+1:=by simp
 rw[aF,g];refine W _ _ _ _ (ag (decide_eq_true (by omega)) ?_);intro Y y;refine y _ _ _ _ _ _ (ag (by decide) ?_);have V:i64.wrap (((m.length+1:Nat):Int) - 1)=((m.length:Nat):Int):=by simp (disch:=omega) only[i64_in];omega
 refine h.tk λw h=>?_
 rw[V];refine⟨by decide,by decide,by omega,by rw[aF,g];omega,?_⟩;have E:bt (bs [35]) 0=35:=rfl;have a6:bt (bs (m++ [d])) ((m.length:Nat):Int)=(d.toNat:Int):=by rw[pI,wa]
 rw[E,a6];have U:((35:Int)==(d.toNat:Int))=false:=by
  have:=nk 35 d;have I:((35:UInt8)==d)=false:=by simpa using λh=>hd h.symm
  rw[I] at this;exact this
 refine af U ?_;refine y _ _ _ _ _ _ (af (by decide) (ag rfl ?_));unfold dZ.k1;refine⟨by omega,by rw[aF,g];omega,?_⟩;rw[bV,lO2,lC0,<-g,lP2];exact O w h

def pB (b s e lv t:Nat)(id:List UInt8):ai:=(b,cel [hY s,hY e,hY lv,kT (kE t),hX (bs id)] qH)

def zLine:Ln:=⟨0,0,0,[],0⟩

theorem z5 {m:List UInt8}{d:UInt8}(hd:cO d=false):wM cO (m++ [d])=m++ [d]:=by
 unfold wM;rw[lH5,List.reverse_singleton,lU2,lB3,hd];simp

theorem nC:lB P gH "Pos" cB=true:=by kernel_rfl
theorem xk:lB P cW "Pos" cB=true:=by kernel_rfl
theorem ql {nb t s e s' e' lv:Nat}{raw id:List UInt8}{q:OA}{n c:Nat}{vs:List Value}{RM KM:List ai}{xs:List IN}(b7:Sl 1 aD q n c vs RM)(b5:kl eG xs vs KM)(b4:n<1073741824)(a7:id.length<1073741824):
 ry bR (.mk {kind:=5,num:=(lv:Nat),title:=id,s:=s,e:=e} xs) (bkV gH nb) (pB nb s e lv t id::fL t s' e' q n c raw::(RM++KM)):=by
 intro σ R L w h b6;refine ci.sound ?_;refine gc nC h (.head _) λb1 g w h=>?_
 refine⟨_,_,_,cl (by kernel_rfl) (by decide) w,af rfl ?_⟩;refine⟨_,_,_,cl (by kernel_rfl) (by decide) w,af rfl ?_⟩;refine⟨_,_,_,cl (by kernel_rfl) (by decide) w,af rfl ?_⟩;refine⟨_,_,_,cl (by kernel_rfl) (by decide) w,af rfl ?_⟩;refine⟨_,_,_,iT (by kernel_rfl) w,ag rfl ?_⟩;refine Sat.tk h λw h=>?_
 have y:pB nb s e lv t id∈((g,cel (N16.C {a8:=s,a9:=e}).toList aj)::(b1,cel (N16.C {}).toList aj)::(pB nb s e lv t id::fL t s' e' q n c raw::(RM++KM)++L)):= .tail _ (.tail _ (.head _))
 refine aa (aa (aa ⟨_,Sat.ld h y (i:=2) rfl,_,Sat.ld h y (i:=4) rfl,_,Sat.ld h y (i:=3) rfl,aa ⟨_,_,_,Sat.ld h (.tail _ (.tail _ (.tail _ (.head _)))) (i:=2) rfl,?_⟩⟩));have h0:=h;have h:Sat σ w (RM++(KM++((g,cel (N16.C {a8:=s,a9:=e}).toList aj)::(b1,cel (N16.C {}).toList aj)::pB nb s e lv t id::fL t s' e' q n c raw::L))):=h.re
 refine jH b7 b5 h b4 λw V U I us E NM a6 W b3 h=>⟨_,_,_,rfl,?_⟩
 have h:Sat σ w ((g,cel (N16.C {a8:=s,a9:=e}).toList aj)::(b1,cel (N16.C {}).toList aj)::pB nb s e lv t id::((E++NM)++(fL t s' e' q n c raw::(RM++KM)++L))):=h.re
 refine⟨h0.same h y (.tail _ (.tail _ (.head _))) 1,h0.same h y (.tail _ (.tail _ (.head _))) 1,?_⟩;have O:=h;refine Sat.st h (k:=0) rfl (by show 0<16;decide) trivial rfl λw h=>⟨O.same h (.tail _ (.tail _ (.head _))) (.tail _ (.tail _ (.head _))) 1,O.same h (.tail _ (.tail _ (.head _))) (.tail _ (.tail _ (.head _))) 1,?_⟩
 have O:=h;refine Sat.st h (k:=0) rfl (by show 3<16;decide) trivial rfl λw h=>⟨O.same h (.tail _ (.tail _ (.head _))) (.tail _ (.tail _ (.head _))) 1,?_⟩
 refine Sat.st h (k:=0) rfl (by show 2<16;decide) trivial rfl λw h=>?_
 refine Sat.st h (k:=0) rfl (by show 7<16;decide) trivial rfl λw h=>?_
 have h:Sat σ w ((g,cel (IH.nd {kind:=5,num:=(lv:Nat),title:=id,s:=s,e:=e} V U I).C.toList aj)::(b1,cel (N16.C {}).toList aj)::((E++NM)++(pB nb s e lv t id::fL t s' e' q n c raw::(RM++KM)++L))):=by
  have h:Sat σ w ((g,cel (IH.nd {kind:=5,num:=(lv:Nat),title:=id,s:=s,e:=e} V U I).C.toList aj)::(b1,cel (N16.C {}).toList aj)::pB nb s e lv t id::((E++NM)++(fL t s' e' q n c raw::(RM++KM)++L))):=h
  exact h.re
 exact iL (v:=IH.nd {kind:=5,num:=(lv:Nat),title:=id,s:=s,e:=e} V U I) (u:= {}) (NM:=E++NM) ⟨_,xs,V,U,I,us,E,NM,rfl,rfl,rfl,⟨bZ,a7,bZ,bZ⟩,a6,W,b3⟩ h b6
def hrC (nb s e:Nat)(raw:List UInt8):ai:=(nb,cel [hY s,hY e,hX (bs raw)] ke)
theorem zy {nb s e:Nat}{raw:List UInt8}(hb:raw.length<1073741824):ry bR (.mk {kind:=9,mark:=raw,s:=s,e:=e} []) (bkV cW nb) [hrC nb s e raw]:=by
 intro σ R L w h g;refine ci.sound ?_;refine gc xk h (.head _) λb1 y w h=>?_
 refine⟨_,_,_,cl (by kernel_rfl) (by decide) w,af rfl ?_⟩;refine⟨_,_,_,cl (by kernel_rfl) (by decide) w,af rfl ?_⟩;refine⟨_,_,_,cl (by kernel_rfl) (by decide) w,af rfl ?_⟩;refine⟨_,_,_,cl (by kernel_rfl) (by decide) w,af rfl ?_⟩;refine⟨_,_,_,cl (by kernel_rfl) (by decide) w,af rfl ?_⟩;refine⟨_,_,_,cl (by kernel_rfl) (by decide) w,af rfl ?_⟩;refine⟨_,_,_,cl (by kernel_rfl) (by decide) w,af rfl ?_⟩;refine⟨_,_,_,cl (by kernel_rfl) (by decide) w,af rfl ?_⟩;refine⟨_,_,_,cl (by kernel_rfl) (by decide) w,af rfl ?_⟩;refine⟨_,_,_,iT (by kernel_rfl) w,ag rfl ?_⟩;refine zB.sound ?_;refine aa ⟨_,Sat.ld h (.tail _ (.tail _ (.head _))) (i:=2) rfl,_,rfl,?_⟩;refine Sat.st h (k:=0) rfl (by show 0<16;decide) trivial rfl λw h=>?_
 refine Sat.st h (k:=0) rfl (by show 10<16;decide) trivial rfl λw h=>?_
 exact iL (v:=IH.nd {kind:=9,mark:=raw,s:=s,e:=e} none 0 0) (u:= {}) (NM:= []) (NodeAt.leaf ⟨bZ,bZ,bZ,hb⟩) h g
def Dq (nb s:Nat)(raw:List UInt8):DB:=⟨.iface cW (kT (kE nb)),[hrC nb s s raw],[]⟩
theorem td_hr {nb s:Nat}{raw:List UInt8}(hb:raw.length<1073741824)(hs:s<1000000000):TD G op (Dq nb s raw) (.mk {kind:=9,mark:=raw,s:=s,e:=s} []):=by
 have ht:(Dq nb s raw).tree G (.mk {kind:=9,mark:=raw,s:=s,e:=s} []):=by
  intro ts ht;refine⟨_,zy (nb:=nb) (s:=s) (e:=s) hb,λa=>?_⟩;cases ht
  simp[Dq,gi]
 refine⟨ht,?_,.inr ⟨_,_,rfl,by decide⟩,⟨kr xk rfl (.head _),?_,hs,by show s<2000000000;omega⟩,λx g=>by simp[Dq] at g⟩
 ·rw[eC (d:=Dq nb s raw) rfl (by decide)];exact ht
 ·show ((s:Int).toNat,(s:Int).toNat)=(s,s)
  simp
def zw (nb t s e lv:Nat)(raw:List UInt8):DB:=⟨.iface gH (kT (kE nb)),[pB nb s e lv t []],[⟨t,s,e,raw⟩]⟩
theorem Gr {nb t s e lv:Nat}{raw:List UInt8}(hs:s<1000000000)(V:e<2000000000)(y:mu (G raw))(O:jW none [] op raw (G raw)):TD G op (zw nb t s e lv raw) (.mk {kind:=5,num:=(lv:Nat),s:=s,e:=e} (eK (G raw))):=by
 have ht:(zw nb t s e lv raw).tree G (.mk {kind:=5,num:=(lv:Nat),s:=s,e:=e} (eK (G raw))):=by
  intro ts ht;cases ht with
  |cons g E U=>
   cases U
   rw[<-E] at y⊢;exact⟨_,ql (nb:=nb) (t:=t) (s:=s) (e:=e) (s':=s) (e':=e) (lv:=lv) (raw:=raw) (id:= []) g.1 (fa y g.2.2) g.2.1 (by decide),λa=>by simp[zw,gi,yi]⟩
 refine⟨ht,?_,.inr ⟨_,_,rfl,by decide⟩,⟨kr nC rfl (.head _),?_,hs,V⟩,λx I=>?_⟩
 ·rw[eC (d:=zw nb t s e lv raw) rfl (by decide)];exact ht
 ·show ((s:Int).toNat,(e:Int).toNat)=(s,e)
  simp
 ·obtain rfl:=lN0.1 I;exact O

theorem A4 (b9:op.task=false){b6:OA->Nat->WP}{b b1 pb:Nat}{xs:List IN}{gs junk:List Bk}{top:Bk}{p:PS}{l:Ln}{s:List UInt8}(e9:Pd G op xs junk .none)(h:DocC σ b (l.at b1::L) (gs++top::junk) .none p w)(hd:p.depth=gs.length)(c5:gs.length<900000)(b7:LnR l (62::32::s))(hs:s.all cO=false)(e8: ∀g∈gs++top::junk,g.D.length<=90000)(e5:(txF (gs++top::junk)).length<=90000)(c9:p.pz=kE pb)(d1:op.at pb∈L)(d0:p.lineno<1000000000)(b5: ∀w (p':PS) y O f,p'.base=p.base->p'.lineno=p.lineno->p'.depth=p.depth+1->y.like top->y.D=top.D++O->TDs G op O xs->(cj O).length<=(txF junk).length+1->f.isQuote->f.ob.s=p.lineno->f.ob.e=p.lineno->f.D= []->
  DocC σ b (({l with i:=l.i+2}:Ln).at b1::L) (gs++ [y,f]) .none p' w->b6 (kE b) b1 w):ak.bl102 R b6 (kE b) b1 w:=by
 obtain⟨b8,a6⟩:=b7.quote;generalize ({l with i:=l.i+2}:Ln)=l2 at b8 a6 b5;have c4:l2.blank=false:=by unfold Ln.blank;rw[a6.tx];exact hs
 obtain⟨M,V,f7,g1,d2,c8,d3,⟨rfl,rfl⟩,h⟩:=h;have h:Sat σ w (p.at b::M++(l.at b1::(V++(aN (gs++top::junk)++L)))):=h.re
 refine jV 0 (by decide) h (λj _ e6=>absurd e6 (by omega)) a6.ok c4 λw nb e e7 h f5=>?_
 show callE P kD _ e7 w
 refine oJ.sound ?_;refine Sat.bx h λb2 w h=>?_
 refine Sat.bx h λE w h=>?_
 repeat (first|refine aa ?_|refine h.tk λw h=>?_|refine⟨_,h.ldA,?_⟩|refine⟨_,_,_,h.ldA,?_⟩)
 have h:Sat σ _ (zLn E::l.at b2::(p.at b::M++(l.at b1::(nb,cel newsC e)::(V++(aN (gs++top::junk)++L))))):=h
 refine ny h b7.ok ?_;rw[b8];intro w h;refine⟨_,_,_,_,_,_,rfl,?_⟩;refine Sat.bx h λI w h=>?_
 refine h.stA 0 λw h=>?_
 refine h.stA 0 λw h=>?_
 refine h.stA 0 λw h=>?_
 refine h.stA 0 λw h=>?_
 refine h.stA 0 λw h=>?_
 refine ag rfl ?_;refine Sat.bx h λa7 w h=>?_
 have h:Sat σ w (GG a7::l2.at I::zLn E::l.at b2::(p.at b::M++(l.at b1::(nb,cel newsC e)::(V++(aN (gs++top::junk)++L))))):=h
 have c1:DocC σ b (GG a7::(zLn E::l2.at I::l.at b1::L)) (gs++top::junk) .none p w:=⟨M,V,[],[],d2,c8,d3,⟨rfl,rfl⟩,h.less [l.at b2,(nb,cel newsC e)]⟩
 refine qx (pb:=pb) (e9.close b9) (.tail _ (.tail _ (.tail _ d1))) c9 e8 e5 c1 hd c5 d0 λw p' y O f e2 e3 e1 k1 k2 k3 k4 b4 e4 f0 g2 h=>⟨rfl,?_⟩
 obtain⟨W,U,f6,g0,e0,c2,c3,⟨rfl,rfl⟩,h⟩:=h;have h:Sat σ w (zLn E::l2.at I::l.at b1::(p'.at b::W++(U++(aN (gs++ [y,f])++L)))):=h.re
 repeat (first|refine aa ?_|refine h.tk λw h=>?_|refine⟨_,h.ldA,?_⟩|refine⟨_,_,_,h.ldA,?_⟩|refine h.stA 0 λw h=>?_|refine h.stA 1 λw h=>?_|refine h.stA 2 λw h=>?_|refine h.stA 3 λw h=>?_|refine h.stA 4 λw h=>?_|refine h.stA 5 λw h=>?_|refine h.stA 6 λw h=>?_|refine h.bx λb0 w h=>?_)
 have h:Sat σ _ (l2.at E::l2.at I::l.at b1::(p'.at b::(W++(U++(aN (gs++ [y,f])++L))))):=h
 have h:Sat σ _ (l.at b1::p'.at b::(W++(U++(aN (gs++ [y,f])++L)))):=h.less [l2.at E,l2.at I]
 refine f5 _ _ p' (by omega) h λw h=>?_
 refine b5 w {p' with depth:=p'.depth+1} y O f e2 e3 (by show p'.depth+1=_;rw[e1]) k1 k2 k3 k4 ⟨a7,by rw[b4];rfl,e4⟩ (by rw[b4]) (by rw[b4]) f0 ⟨W,U,[],[],e0.of rfl rfl rfl,c2.of rfl rfl rfl,c3,⟨rfl,rfl⟩,h.re⟩
theorem GH (b6:op.task=false){d0:OA->Nat->WP}{b b1 pb:Nat}{xs:List IN}{gs junk:List Bk}{top:Bk}{p:PS}{l:Ln}(W:Pd G op xs junk .none)(h:DocC σ b (l.at b1::L) (gs++top::junk) .none p w)(hd:p.depth=gs.length)(b5:gs.length<900000)(ht:top.np)(O:l.ok)(e4:l.quote=none)(e3:l.heading=none)(c3:l.isHR=true)(e1: ∀g∈gs++top::junk,g.D.length<=90000)(d3:(txF (gs++top::junk)).length<=90000)(c4:p.pz=kE pb)(c5:op.at pb∈L)(e9:p.lineno<1000000000)(V: ∀w (p':PS) y U nb,p'.base=p.base->p'.lineno=p.lineno->y.like top->y.D=top.D++(U++ [Dq nb p.lineno l.str])->TDs G op U xs->(cj U).length<=(txF junk).length+1->DocC σ b L (gs++ [y]) .none p' w->R (hQ (.tuple #[])) w):
 ak.bl102 R d0 (kE b) b1 w:=by
 obtain⟨M,E,e7,f1,a7,c2,c8,⟨rfl,rfl⟩,h⟩:=h;rw[lG0] at a7;have h:Sat σ w (p.at b::M++(l.at b1::(E++(aN (gs++top::junk)++L)))):=h.re
 have c1:=oz (b:=b) (l:=l) a7 hd b5 ht W.next (W.last rfl gs top ht) O
 refine oR 3 (by decide) h ?_ λw nb e e0 h e5=>?_
 ·intro j f2 e2 σ w L R h V
  match j,e2 with
  |0,_=>exact iU (x:= .nilIface) h O e4 V
  |1,_=>exact l9 h O e3 V
  |2,_=>exact c1 σ w L R h V
 show callE P ra _ e0 w
 refine wb.sound ?_;refine Sat.bx h λb2 w h=>?_
 refine Sat.bx h λI w h=>?_
 repeat (first|refine aa ?_|refine h.tk λw h=>?_|refine⟨_,h.ldA,?_⟩|refine⟨_,_,_,h.ldA,?_⟩)
 have h:Sat σ _ (zLn I::l.at b2::(p.at b::M++(l.at b1::(nb,cel newsC e)::(E++(aN (gs++top::junk)++L))))):=h
 refine Dg (l:=l) h O λw h=>⟨_,rfl,?_⟩
 rw[c3];refine ag rfl ?_;have h:Sat σ w (p.at b::(zLn I::l.at b2::(M++(l.at b1::(nb,cel newsC e)::(E++(aN (gs++top::junk)++L)))))):=h.re
 refine Sat.tk h λw h=>aa (aa ⟨_,Sat.ld h (.head _) (i:=3) rfl,_,Sat.ld h (.head _) (i:=3) rfl,?_⟩)
 have h0:=h;refine pS h (.tail _ (.tail _ (.head _))) O λw h=>⟨_,rfl,h0.same h (.head _) (.head _) 1,h0.same h (.head _) (.head _) 1,?_⟩
 refine Sat.bx h λhb w h=>?_
 have h:Sat σ w (hrC hb p.lineno p.lineno l.str::p.at b::(zLn I::l.at b2::(M++(l.at b1::(nb,cel newsC e)::(E++(aN (gs++top::junk)++L)))))):=h
 have b7:DocE σ b ((Dq hb p.lineno l.str).own++((Dq hb p.lineno l.str).txs.map TX.chunk++(zLn I::l.at b1::L))) (Dq hb p.lineno l.str).txs (gs++top::junk) p w:=by
  refine⟨M,E,[],[],by rw[lG0];exact a7,?_,c8,⟨rfl,rfl⟩,?_⟩
  ·show Txts p ((txF (gs++top::junk)++ []).map TX.t) E
   rw[lG0];exact c2
  ·show Sat σ w (p.at b::M++(E++(aN (gs++top::junk)++([]++([hrC hb p.lineno p.lineno l.str]++([]++(zLn I::l.at b1::L)))))))
   exact h.less [l.at b2,(nb,cel newsC e)]
 refine rm (pb:=pb) (d:=Dq hb p.lineno l.str) (W.closeE b6 rfl) (.tail _ (.tail _ c5)) c4 e1 d3 b7 hd b5 rfl W.len λw p' y U d1 f0 d2 k1 k2 k3 k4 h=>⟨rfl,?_⟩
 obtain⟨b4,a6,e6,e8,c9,b8,b9,⟨rfl,rfl⟩,h⟩:=h;have h:Sat σ w (zLn I::l.at b1::(p'.at b::b4++(a6++(aN (gs++ [y])++L)))):=h.re
 repeat (first|refine aa ?_|refine h.tk λw h=>?_|refine⟨_,h.ldA,?_⟩|refine⟨_,_,_,h.ldA,?_⟩|refine h.stA 0 λw h=>?_|refine h.stA 1 λw h=>?_|refine h.stA 2 λw h=>?_|refine h.stA 3 λw h=>?_|refine h.stA 4 λw h=>?_|refine h.stA 5 λw h=>?_|refine h.stA 6 λw h=>?_|refine h.bx λb0 w h=>?_)
 have h:Sat σ _ (zLn I::l.at b1::(p'.at b::b4++(a6++(aN (gs++ [y])++L)))):=h
 refine e5 _ _ h.tail λw h=>?_
 exact V w p' y U hb d1 d2 k1 k2 k3 k4 ⟨b4,a6,[],[],c9,b8,b9,⟨rfl,rfl⟩,h.re⟩

theorem LnR.hashes {c:UInt8}{r:List UInt8}(hc:c≠35): ∀(j k n:Nat) {l:Ln},j<=k->LnR l (hN j 35++c::r)->l.hashes k n=(n+j,{l with i:=l.i+j})
 |0,0,n,l,_,h=>by simp[Ln.hashes]
 |0,k+1,n,l,_,h=>by
  have h:LnR l (c::r):=h
  have e:l.trimC 35=none:=by rw[h.has.trimC,if_neg hc]
  simp[Ln.hashes,e]
 |j+1,0,n,l,hj,h=>absurd hj (by omega)
 |j+1,k+1,n,l,hj,h=>by
  have h:LnR l (35::(hN j 35++c::r)):=by rw[lA2] at h;exact h
  have e:l.trimC 35=some {l with i:=l.i+1}:=by rw[h.has.trimC,if_pos rfl]
  have g:=LnR.hashes hc j k (n+1) (by omega) (LnR.skip (a:= [35]) h);simp only[Ln.hashes,e];refine g.trans ?_
  show (n+1+j,({l with i:=l.i+1+j}:Ln))=(n+(j+1),{l with i:=l.i+(j+1)})
  rw[lH3 n,lH3 l.i,lD3,lD3]
theorem LnR.heading {l:Ln}{n:Nat}{s:List UInt8}(W:1<=n/\n<=6)(h:LnR l (hN n 35++32::s)):l.heading=some (n,{l with i:=l.i+(n+1)})/\LnR {l with i:=l.i+(n+1)} s/\l.quote=none/\l.blank=false:=by
 obtain⟨j,rfl⟩: ∃j,n=j+1:=⟨n - 1,by omega⟩
 have I:LnR l (35::(hN j 35++32::s)):=by rw[lA2] at h;exact h
 have g:=I.has;have U:l.lead 3 false=l:=g.lead (by decide) 2 false;have O:=LnR.skip (a:= [35]) I;have E:=LnR.hashes (c:=32) (r:=s) (by decide) j 5 1 (by omega) O
 have y:=LnR.skip O;rw[lG2] at y;have V:({l with i:=l.i+1+j}:Ln).has 32 s:=y.has
 refine⟨?_,?_,?_,g.blank (by decide)⟩
 ·unfold Ln.heading;rw[U,g.trimC,if_pos rfl]
  show (((Ln.hashes 5 1 {l with i:=l.i+1}).2.trimSp 1 1 true).map λt'=>((Ln.hashes 5 1 {l with i:=l.i+1}).1,t'))=_
  have E:Ln.hashes 5 1 {l with i:=l.i+1}=(1+j,{l with i:=l.i+1+j}):=E
  rw[E]
  show ((Ln.trimSp 1 1 true {l with i:=l.i+1+j}).map λt'=>(1+j,t'))=_
  rw[V.sp1]
  show some (1+j,({l with i:=l.i+1+j+1}:Ln))=some (j+1,{l with i:=l.i+(j+1+1)})
  rw[lH4 1 j];have:l.i+1+j+1=l.i+(j+1+1):=by omega
  rw[this]
 ·have:=LnR.skip (a:= [32]) y;have e:l.i+1+j+1=l.i+(j+1+1):=by omega
  show LnR {l with i:=l.i+(j+1+1)} s
  rw[<-e];exact this
 ·unfold Ln.quote;rw[U,g.trimC,if_neg (by decide)];rfl
theorem CE (e0:op.task=false)(e7:op.ids=false){f3:OA->Nat->WP}{b b1 pb lv:Nat}{xs:List IN}{gs junk:List Bk}{top:Bk}{p:PS}{l b6:Ln}{m:List UInt8}{E:UInt8}(d2:Pd G op xs junk .none)(h:DocC σ b (l.at b1::L) (gs++top::junk) .none p w)(hd:p.depth=gs.length)(f0:gs.length<900000)(c9:l.ok)(g3:l.quote=none)(g2:l.heading=some (lv,b6))(b9:LnR b6 (m++ [E]))(b7:cO E=false/\E≠35)(h2:m.length<100000)(g0: ∀g∈gs++top::junk,g.D.length<=90000)(f6:(txF (gs++top::junk)).length<=90000)(c3:p.pz=kE pb)(c4:op.at pb∈L)(h4:p.lineno<1000000000)(c2: ∀w (p':PS) I a6 nb t,p'.base=p.base->p'.lineno=p.lineno->I.like top->I.D=top.D++(a6++ [zw nb t p.lineno p.lineno lv (m++ [E])])->TDs G op a6 xs->(cj a6).length<=(txF junk).length+1->DocC σ b L (gs++ [I]) .none p' w->R (hQ (.tuple #[])) w):
 ak.bl102 R f3 (kE b) b1 w:=by
 obtain⟨M,U,g6,h6,c5,e9,f1,⟨rfl,rfl⟩,h⟩:=h;rw[lG0] at c5;have e4:b6.str=m++ [E]:=by unfold Ln.str;rw[b9.sp,b9.tx];rfl
 have h:Sat σ w (p.at b::M++(l.at b1::(U++(aN (gs++top::junk)++L)))):=h.re
 refine oR 1 (by decide) h ?_ λw nb e f7 h g4=>?_
 ·intro j h7 g1 σ w L R h c2
  match j,g1 with
  |0,_=>exact iU (x:= .nilIface) h c9 g3 c2
 show callE P fF _ f7 w
 refine cJ.sound ?_;refine Sat.bx h λb2 w h=>?_
 refine Sat.bx h λy w h=>?_
 repeat (first|refine aa ?_|refine h.tk λw h=>?_|refine⟨_,h.ldA,?_⟩|refine⟨_,_,_,h.ldA,?_⟩)
 refine Sat.bx h λd1 w h=>?_
 repeat (first|refine aa ?_|refine h.tk λw h=>?_|refine⟨_,h.ldA,?_⟩|refine⟨_,_,_,h.ldA,?_⟩|refine h.stA 0 λw h=>?_|refine h.stA 1 λw h=>?_|refine h.stA 2 λw h=>?_|refine h.stA 3 λw h=>?_|refine h.stA 4 λw h=>?_|refine h.stA 5 λw h=>?_|refine h.stA 6 λw h=>?_|refine h.bx λb0 w h=>?_)
 have h:Sat σ _ ((b0,cel [hY 0] ba)::l.at d1::zLine.at y::l.at b2::(p.at b::M++(l.at b1::(nb,cel newsC e)::(U++(aN (gs++top::junk)++L))))):=h
 refine o6 h.up1 c9 ?_;rw[g2];intro w h;refine⟨_,rfl,ag rfl ?_⟩;refine pS h (.head _) b9.ok λw h=>⟨_,rfl,?_⟩
 rw[e4];refine uB (by simp;omega) ⟨_,rfl,?_⟩;rw[z5 b7.1];refine ug (by omega) b7.2 h λw h=>⟨_,rfl,?_⟩
 refine uB (by simp;omega) ⟨_,rfl,?_⟩;rw[z5 b7.1];refine af (by simp only[cn];rw[gL];simp) ?_;unfold cJ.k1;have h:Sat σ w (p.at b::(zLine.at y::(b0,cel [hY lv] ba)::(M++(l.at b1::(U++(aN (gs++top::junk)++L)))))):=h.less [b6.at d1,l.at b2,(nb,cel newsC e)]
 refine aa ⟨_,Sat.ld h (.head _) rfl,?_⟩;rw[c3];refine aa ⟨op.ids,Sat.ld h (b:=pb) (i:=0) (by simp[c4]:op.at pb∈_) rfl,?_⟩;rw[e7];refine af rfl ?_;unfold cJ.k2;refine Sat.tk h λw h=>aa (aa ?_)
 refine⟨_,Sat.ld h (.head _) (i:=3) rfl,_,Sat.ld h (.head _) (i:=3) rfl,?_⟩;have h0:=h;refine Sat.bx h λO w h=>?_
 refine⟨h0.same h (.head _) (.tail _ (.head _)) 1,h0.same h (.head _) (.tail _ (.head _)) 1,?_⟩;have h:Sat σ w ((O,cel [hY 0,hY 0] aH)::(p.at b::(zLine.at y::(b0,cel [hY lv] ba)::(M++(l.at b1::(U++(aN (gs++top::junk)++L))))))):=h
 refine h.stA 0 λw h=>?_
 refine h.stA 0 λw h=>?_
 have h:Sat σ w ((O,cel [hY p.lineno,hY p.lineno] aH)::(b0,cel [hY lv] ba)::(p.at b::(zLine.at y::(M++(l.at b1::(U++(aN (gs++top::junk)++L))))))):=by
  have h:Sat σ w ((O,cel [hY p.lineno,hY p.lineno] aH)::(p.at b::(zLine.at y::(b0,cel [hY lv] ba)::(M++(l.at b1::(U++(aN (gs++top::junk)++L))))))):=h
  exact h.re
 refine Sat.tk h λw h=>?_
 refine⟨_,Sat.ld h (.head _) (i:=0) rfl,_,Sat.ld h (.head _) (i:=1) rfl,_,Sat.ld h (.tail _ (.head _)) (i:=0) rfl,_,Sat.ld h (.head _) (i:=0) rfl,_,Sat.ld h (.head _) (i:=1) rfl,?_⟩;have c8:=h;have h:Sat σ _ (p.at b::U++(M++((O,cel [hY p.lineno,hY p.lineno] aH)::(b0,cel [hY lv] ba)::zLine.at y::l.at b1::(aN (gs++top::junk)++L)))):=h.re
 refine uO h e9 (by simp;omega) λw W b5 t V e8 h=>⟨_,rfl,?_⟩
 have h:Sat σ w ((O,cel [hY p.lineno,hY p.lineno] aH)::(b0,cel [hY lv] ba)::(W.at b::M++(b5++(fL t p.lineno p.lineno none 0 0 (m++ [E])::zLine.at y::l.at b1::(aN (gs++top::junk)++L))))):=h.re
 refine⟨c8.same h (.tail _ (.head _)) (.tail _ (.head _)) 1,c8.same h (.head _) (.head _) 2,?_⟩;refine Sat.bx h λhb w h=>?_
 have h:Sat σ w (pB hb p.lineno p.lineno lv t []::(O,cel [hY p.lineno,hY p.lineno] aH)::(b0,cel [hY lv] ba)::(W.at b::M++(b5++(fL t p.lineno p.lineno none 0 0 (m++ [E])::zLine.at y::l.at b1::(aN (gs++top::junk)++L))))):=h
 generalize a7:zw hb t p.lineno p.lineno lv (m++ [E])=d;have e1:d.own= [pB hb p.lineno p.lineno lv t []]:=by rw[<-a7];rfl
 have e6:d.txs= [⟨t,p.lineno,p.lineno,m++ [E]⟩]:=by rw[<-a7];rfl
 have e2:DocE σ b (d.own++(d.txs.map TX.chunk++(zLine.at y::l.at b1::L))) d.txs (gs++top::junk) W w:=by
  rw[e1,e6];refine⟨M,b5,[],[],by rw[lG0];exact c5.of (by rw[V]) (by rw[V]) (by rw[V]),?_,f1,⟨rfl,rfl⟩,?_⟩
  ·rw[lV0];exact e8
  ·show Sat σ w (W.at b::M++(b5++(aN (gs++top::junk)++([]++([pB hb p.lineno p.lineno lv t []]++([fL t p.lineno p.lineno none 0 0 (m++ [E])]++(zLine.at y::l.at b1::L)))))))
   exact h.less [(O,cel [hY p.lineno,hY p.lineno] aH),(b0,cel [hY lv] ba)]
 have d3:W.base=p.base:=by rw[V];rfl
 refine rm (pb:=pb) (d2.closeE e0 rfl) (.tail _ (.tail _ c4)) (by rw[<-c3];exact pJ d3) g0 f6 e2 (by rw[V];exact hd) f0 (by rw[<-a7];rfl) d2.len λw p' I a6 f4 h5 f5 k1 k2 k3 k4 h=>⟨rfl,?_⟩
 obtain⟨c1,b8,g5,g7,f2,e3,e5,⟨rfl,rfl⟩,h⟩:=h;have h:Sat σ w (zLine.at y::l.at b1::(p'.at b::c1++(b8++(aN (gs++ [I])++L)))):=h.re
 repeat (first|refine aa ?_|refine h.tk λw h=>?_|refine⟨_,h.ldA,?_⟩|refine⟨_,_,_,h.ldA,?_⟩|refine h.stA 0 λw h=>?_|refine h.stA 1 λw h=>?_|refine h.stA 2 λw h=>?_|refine h.stA 3 λw h=>?_|refine h.stA 4 λw h=>?_|refine h.stA 5 λw h=>?_|refine h.stA 6 λw h=>?_|refine h.bx λb0 w h=>?_)
 have h:Sat σ _ (zLine.at y::l.at b1::(p'.at b::c1++(b8++(aN (gs++ [I])++L)))):=h
 refine g4 _ _ h.tail λw h=>?_
 refine c2 w p' I a6 hb t (f4.trans d3) (f5.trans (by rw[V])) k1 (by rw[a7];exact k2) k3 k4 ⟨c1,b8,[],[],f2,e3,e5,⟨rfl,rfl⟩,h.re⟩

theorem Pd.leaf {xs:List IN}{junk:List Bk}{lf:Leaf}(h:Pd G op xs junk lf):lf= .none\/ ∃s ls,lf=pv s ls:=by
 induction h with
 |none=>exact .inl rfl
 |para _=>exact .inr ⟨_,_,rfl⟩
 |quote _ _ _ g=>exact g
 |list _ _ _ _ _ _ _ _ g=>exact g
theorem Pd.topOf {xs:List IN}{junk:List Bk}{lf:Leaf}{pre:List Bk}{f:Bk}{y:List OB}{U:List ai}(h:Pd G op xs junk lf)(I:f.np)(E:Ee lf y U):
 ∃g o t v,(pre++f::junk).map Bk.ob++y=g++ [o]/\o.bd= .iface t v/\(t=ar-> ∃q,v= kT q):=by
 rcases h.leaf with rfl|⟨s,ls,rfl⟩
 ·obtain⟨rfl,_⟩:=E;obtain⟨g,o,t,v,V,W,a6⟩:=h.last rfl pre f I;exact⟨g,o,t,v,by rw[V];simp,W,λh0=>absurd h0 a6⟩
 ·obtain⟨O,e,rfl,_⟩:=E;exact⟨(pre++f::junk).map Bk.ob,kj O s e,_,_,rfl,rfl,λ_=>⟨_,rfl⟩⟩
theorem CO (m2:op.task=false){i1:OA->Nat->WP}{b b1 pb lb e1 v6 n:Nat}{num:Int}{it:OA}{xs e5:List IN}{gs junk:List Bk}{top f y:Bk}{lf:Leaf}{p:PS}{l l2:Ln}{x c d:UInt8}{r r2:List UInt8}(r9:Runs R i1 b b1)(h4:Pd G op e5 junk lf)(h:DocC σ b (l.at b1::L) (gs++top::f::y::junk) lf p w)(hd:p.depth=gs.length)(y1:gs.length<90000)(ht:top.box_)(v0:f.isList lb c.toNat num it)(i3:ItemOf it y lb e1 true)(r5:TDs G op y.D xs)(b6:l.has x r)(hc:yD x)(i0:l.isHR=false)(o2:qB l c v6 n l2)(g4:l2.has d r2)(s8:cO d=false)(d1: ∀k∈gs++top::f::y::junk,k.D.length<=90000)(w2:(txF (gs++top::f::y::junk)).length<=90000)(r1:p.pz=kE pb)(s5:op.at pb∈L)(s4:p.lineno<1000000000)(d0: ∀(X:OA->Nat->WP),(∀i8 i2 w,ak.bl102 R X i8 i2 w->X i8 i2 w)-> ∀w (p':PS) c8 U (O:IT) g6,p'.base=p.base->p'.lineno=p.lineno->p'.depth=p.depth+2->c8.isList lb c.toNat num g6->c8.ob.s=f.ob.s->c8.D=f.D++ [O.db]->O.ok->TDs G op O.D (xs++e5)->O.s=y.ob.s->O.e=y.ob.e->O.wd=e1->
  (cj O.D).length<=(txF (y::junk)).length+1->ItemOf g6 U lb n true->U.D= []->U.ob.s=p.lineno->U.ob.e=p.lineno->DocC σ b (l2.at b1::L) (gs++top::c8:: [U]) .none p' w->X (kE b) b1 w):ak.bl102 R i1 (kE b) b1 w:=by
 have n3:cO x=false:=hc.1;have h8:=g4.blank s8;have g3:=i3;obtain⟨ib,w9,t9,x6⟩:=i3;obtain⟨d3,u0⟩:=v0;obtain⟨x1,y3,r6,x7,s9⟩:=ht;obtain⟨M,b7,c4,b5,hs,s3,c9,j0,h⟩:=h;obtain⟨y4,o,z3,z1,e7,h5,h7⟩:=h4.topOf (pre:=gs++ [top,f]) (f:=y) g3.box_.np j0;have v2:gs++top::f::y::junk=(gs++ [top,f])++y::junk:=by simp
 have g0:((gs++top::f::y::junk).map Bk.ob++c4)[gs.length]? =some top.ob:=by rw[lM0 (by simp)];simp
 have d2:((gs++top::f::y::junk).map Bk.ob++c4)[gs.length+1]? =some f.ob:=by rw[lM0 (by simp)];simp
 have e9:((gs++top::f::y::junk).map Bk.ob++c4)[gs.length+2]? =some y.ob:=by rw[lM0 (by simp)];simp
 generalize g2:(gs++top::f::y::junk).map Bk.ob++c4=obs at hs g0 d2 e9;rw[<-v2,g2] at e7;have f7: ∀(k:Bk),k.IM=f.IM->k.D=f.D->aN (gs++top::k::y::junk)=aN (gs++ [top])++(f.IM++(k.own++(cZ f.D++txc f.D))++aN (y::junk)):=by
  intro k k1 k2;have:gs++top::k::y::junk=(gs++ [top])++([k]++(y::junk)):=by simp
  rw[this,bi,bi [k],dC,k1,k2]
 have g1: ∀(p2:PS) (M:List ai) (j:Nat),j<2->Stk p2 obs M->p2.depth=((gs.length+j:Nat):Int)->B3 b p2 M l cg:=by
  intro p2 M j v7 f1 h1 σ w L R i4 k0;rw[e7] at f1;rw[e7] at d2 e9
  match j,v7 with
  |0,_=>exact lA (d:=gs.length) i4 f1 h1 (by omega) d2 d3 (by decide) h5 h7 b6.ok k0
  |1,_=>exact lA (d:=gs.length+1) i4 f1 h1 (by omega) e9 t9 (by decide) h5 h7 b6.ok k0
 have h:Sat σ w (p.at b::M++(l.at b1::(b7++(aN (gs++top::f::y::junk)++(b5++L))))):=h.re
 refine jV (l2:=l) 4 (by decide) h (jU (g1 p M 0 (by decide) hs (by rw[hd];rfl)) b6 hc i0) b6.ok (b6.blank n3) λw nb e f5 h I=>?_
 show callE P cm _ f5 w
 rw[f7 f rfl rfl,u0] at h;have h:Sat σ w (p.at b::M++(cP lb c.toNat num false it .nilFunc::(l.at b1::(nb,cel newsC e)::(b7++(aN (gs++ [top])++(f.IM++(cZ f.D++txc f.D)++aN (y::junk))++(b5++L)))))):=h.re
 refine vN (d:=gs.length) h hs hd (by omega) g0 r6 s9 d2 d3 b6.ok o2 λw a6 a7 W V c5 h=>?_
 rw[h8,show (!false)=true from rfl] at h;have h:Sat σ w (l.at b1::p.at b::(M++(cP lb c.toNat num false it (li a6 V W a7)::(fJ b a6 a7 W V lb c5 n true l2++((nb,cel newsC e)::(b7++(aN (gs++ [top])++(f.IM++(cZ f.D++txc f.D)++aN (y::junk))++(b5++L)))))))):=by
  have h:Sat σ w (p.at b::M++(cP lb c.toNat num false it (li a6 V W a7)::(fJ b a6 a7 W V lb c5 n true l2++(l.at b1::(nb,cel newsC e)::(b7++(aN (gs++ [top])++(f.IM++(cZ f.D++txc f.D)++aN (y::junk))++(b5++L))))))):=h
  exact h.re
 refine I w _ p (by omega) h λw h=>?_
 refine r9 w λX s1=>?_
 let b9:PS:= {p with depth:=p.depth+1}
 let E:Bk:=⟨f.ob,[cP lb c.toNat num false it (li a6 V W a7)],f.D,f.IM⟩
 have h6:Stk b9 obs M:=hs.of rfl rfl rfl;have h:Sat σ w (b9.at b::M++(l.at b1::(fJ b a6 a7 W V lb c5 n true l2++((nb,cel newsC e)::(b7++(aN (gs++top::E::y::junk)++(b5++L))))))):=by
  rw[f7 E rfl rfl,show E.own= [cP lb c.toNat num false it (li a6 V W a7)] from rfl];have h:Sat σ w (l.at b1::b9.at b::(M++(cP lb c.toNat num false it (li a6 V W a7)::(fJ b a6 a7 W V lb c5 n true l2++((nb,cel newsC e)::(b7++(aN (gs++ [top])++(f.IM++(cZ f.D++txc f.D)++aN (y::junk))++(b5++L)))))))):=h
  exact h.re
 refine jV (l2:=l2) 4 (by decide) h (jU (g1 b9 M 1 (by decide) h6 (by show p.depth+1=_;rw[hd];rfl)) b6 hc i0) g4.ok h8 λw f2 f4 w6 h t0=>?_
 show callE P cm _ w6 w
 have o4: ∀k∈(gs++ [top])++E::(y::junk),Bk.ok k:=by
  intro k I;simp only[lD0,lP0,lW0,lH1,or_false,lR0,lT0] at I;rcases I with I|rfl|rfl|rfl|I
  ·exact c9 _ (by simp[I])
  ·exact c9 _ (by simp)
  ·exact c9 f (by simp)
  ·exact c9 _ (by simp)
  ·exact c9 _ (by simp[I])
 have v9:gs++top::E::y::junk=(gs++ [top])++E::(y::junk):=by simp
 have h3:txF ((gs++ [top])++E::(y::junk))=txF (gs++top::f::y::junk):=by simp[txF,E]
 have s7:DocC σ b (fJ b a6 a7 W V lb c5 n true l2++(l.at b1::(f2,cel newsC f4)::(nb,cel newsC e)::L)) ((gs++ [top])++E::(y::junk)) lf b9 w:=by
  refine⟨M,b7,c4,b5,?_,?_,o4,j0,?_⟩
  ·have:((gs++ [top])++E::(y::junk)).map Bk.ob++c4=obs:=by rw[<-g2];simp[E]
   rw[this];exact h6
  ·rw[h3];exact s3.of rfl rfl rfl
  ·rw[<-v9];exact h.re
 have h9: ∀k∈((gs++ [top])++ [E])++y::junk,k.D.length<=90000:=by
  intro k I;simp only[lD0,lP0,lW0,lH1,or_false,lR0,lT0] at I;rcases I with I|rfl|rfl|rfl|I
  ·exact d1 _ (by simp[I])
  ·exact d1 _ (by simp)
  ·exact d1 f (by simp)
  ·exact d1 _ (by simp)
  ·exact d1 _ (by simp[I])
 have t4:(txF (((gs++ [top])++ [E])++y::junk)).length<=90000:=by
  have:((gs++ [top])++ [E])++y::junk=(gs++ [top])++E::(y::junk):=by simp
  rw[this,h3];exact w2
 refine HF (Post:=λz2 e8=>e8.ob.s=f.ob.s/\ ∃O:IT,e8.D=f.D++ [O.db]/\O.ok/\TDs G op O.D (xs++e5)/\O.s=y.ob.s/\O.e=y.ob.e/\O.wd=e1/\(cj O.D).length<=(txF (y::junk)).length+1) (l:=l) s7 ⟨d3,rfl⟩ (by show p.depth+1=_;rw[hd];simp) (by simp;omega) s4 (λe6 f5 w t7 h I=>?_) λw b8 f6 e8 b4 U m4 v5 j1 v4 q0 m3 o0 u2 m5 t3 t5 h=>?_
 ·have w3:(((gs++ [top]).length:Int)+1)=(((gs++ [top]).length+1:Nat):Int):=by omega
  rw[w3];refine wO h (by simp;omega) λX d0=>?_
  have h:DocC σ b e6 (((gs++ [top])++ [E])++y::junk) lf b9 w:=by simpa using h
  have m6:op.at pb∈e6:=t7 _ (lB0 _ (.tail _ (.tail _ (.tail _ s5))))
  refine h4.close m2 σ f5 e6 b pb b9 w X ((gs++ [top])++ [E]) y ((gs++ [top]).length+1) d0 m6 r1 (by simp) h9 t4 h λw f6 b3 y5 t2 t8 u1 f0 h2 s2 x4 h=>?_
  have h:DocC σ b e6 ((gs++ [top])++ [E,b3]) .none f6 w:=by simpa using h
  refine pQ d0 h (by simp) ?_;have w8:=h9 E (by simp);refine vb h (f0.itemOf g3).item (⟨d3,rfl⟩:E.isListT lb c.toNat num it (li a6 V W a7)) (by omega) λw c8 nb x r3 r7 x9 r8 o3 h=>⟨_,rfl,?_⟩
  refine wP d0 h (by simp) ?_;refine I w {f6 with stn:=(gs++ [top]).length+1} c8 none ⟨r7,IT.mk nb b3.ob.s b3.ob.e b3.ob.q b3.ob.n b3.ob.c e1 b3.IM b3.D,r8,o3,?_,f0.2.1,f0.2.2.1,rfl,?_⟩ t2 u1 t8 r3 h
  ·show TDs G op b3.D (xs++e5)
   rw[h2];exact r5.append s2
  ·show (cj b3.D).length<=_
   have u4:txF (y::junk)=cj y.D++txF junk:=by simp[txF]
   rw[h2,di,u4];simp only[lA0];omega
 ·have s6:b8.depth=((gs.length+1:Nat):Int):=by rw[v4];show p.depth+1=_;rw[hd];omega
  have y2:b8.lineno=p.lineno:=j1;obtain⟨m1,g7,w7,x8,r4,t6,n2,⟨rfl,rfl⟩,h⟩:=h;have h:Sat σ w (l.at b1::b8.at b::(m1++(g7++(aN ((gs++ [top])++ [b4,U])++([]++((f2,cel newsC f4)::(nb,cel newsC e)::L)))))):=h.re
  refine t0 w _ b8 (by omega) h λw h=>?_
  obtain⟨u8,O,w1,v3,w5,w4,q6,q7,v8⟩:=m4;refine d0 X s1 w {b8 with depth:=b8.depth+1} b4 U O (kE c5) v5 j1 (by show b8.depth+1=_;rw[s6,hd];omega) q0 (by rw[m3];exact u8) (by rw[o0];exact w1) v3 w5 w4 q6 q7 v8 u2 m5 t3 t5 ⟨m1,g7,[],[],?_,?_,?_,⟨rfl,rfl⟩,?_⟩
  ·have:(gs++top::b4:: [U]).map Bk.ob++ []=((gs++ [top])++ [b4,U]).map Bk.ob++ []:=by simp
   rw[this];exact r4.of rfl rfl rfl
  ·have:txF (gs++top::b4:: [U])=txF ((gs++ [top])++ [b4,U]):=by simp[txF]
   rw[this];exact t6.of rfl rfl rfl
  ·intro k I;exact n2 k (by simpa using I)
  ·have:aN (gs++top::b4:: [U])=aN ((gs++ [top])++ [b4,U]):=by simp[aN]
   rw[this];exact h.less [(f2,cel newsC f4),(nb,cel newsC e)]

theorem wX (c9:op.task=false){b b1 pb a6 num n:Nat}{num0:Int}{b6:OA}{xs:List IN}{gs V:List Bk}{top U:Bk}{p:PS}{l t:Ln}{c c0:UInt8}(g3:Pd G op xs (U::V) .none)(c2:U.isList a6 c0.toNat num0 b6)(e6:c0≠c)(h:DocC σ b (l.at b1::L) (gs++top::U::V) .none p w)(hd:p.depth=gs.length)(h3:gs.length<90000)(g2: ∀g∈gs++top::U::V,g.D.length<=90000)(g1:(txF (gs++top::U::V)).length<=90000)(e1:p.pz=kE pb)(e3:op.at pb∈L)(e2:p.lineno<1000000000)(h5:l.ok)(hb:qB l c num n t)(g5: ∀w (p':PS) y b4 f lb O I E W ib,p'.base=p.base->p'.lineno=p.lineno->p'.depth=p.depth->y.like top->y.D=top.D++b4->TDs G op b4 xs->(cj b4).length<=(txF (U::V)).length+1->f.ob=⟨C1 lb,none,0,0,p.lineno,p.lineno⟩->f.own= [cP lb c.toNat (num:Nat) false none (li O W E I)]->f.D= []->f.IM= []->
  DocC σ b (l.at b1::(fJ b O I E W lb ib n (!t.blank) t++L)) (gs++ [y,f]) .none p' w->R (hQ (hV true)) w):
 callE P bN #[kT (kE b),kT (kE b1)] R w:=by
 obtain⟨M,c4,g7,h4,hs,d3,e7,⟨rfl,rfl⟩,h⟩:=h;rw[lG0] at hs;have e0:cP a6 c0.toNat num0 false b6 .nilFunc∈aN (gs++top::U::V):=by
  unfold aN;refine lV2.2 ⟨U,by simp,?_⟩;unfold Bk.mem;rw[c2.2];simp
 generalize c1:c4++(aN (gs++top::U::V)++L)=K;have e4:cP a6 c0.toNat num0 false b6 .nilFunc∈K:=by rw[<-c1];simp[e0]
 have h:Sat σ w (l.at b1::(p.at b::M++K)):=by rw[<-c1];exact h.re
 have ht:=hb.ok;refine hb.run h λw I O a7 t' h=>?_
 refine Sat.bx h λE w h=>?_
 refine⟨_,Sat.ld h (.tail _ (.tail _ (.head _))) (i:=0) rfl,?_⟩;have h:Sat σ w (p.at b::M++((E,cel [kT none] aB)::(O,cel [kT (kE b)] ah)::t.at I::t'.at a7::l.at b1::K)):=h.re
 refine mA (d:=gs.length) h hs hd (by omega) λw h=>⟨_,rfl,?_⟩
 rw[show ((gs++top::U::V).map Bk.ob)[gs.length+1]? =some U.ob by simp];dsimp only;refine⟨kE a6,true,w,by rw[c2.1];exact lx _ w,ag rfl ?_⟩;have h:Sat σ w ((E,cel [kT none] aB)::(O,cel [kT (kE b)] ah)::t.at I::(p.at b::M++(t'.at a7::l.at b1::K))):=h.re
 refine h.stA 0 λw h=>?_
 have h:Sat σ w (iv E a6::(O,cel [kT (kE b)] ah)::t.at I::(p.at b::M++(t'.at a7::l.at b1::K))):=h
 refine⟨_,Sat.ld h (.head _) (i:=0) rfl,_,_,kK ni _ w,af rfl ?_⟩;refine⟨_,Sat.ld h (.head _) (i:=0) rfl,aa ?_⟩;refine⟨_,Sat.ld h (by simp[e4]:cP a6 c0.toNat num0 false b6 .nilFunc∈_) (i:=0) rfl,?_⟩;rw[Au];have d2:(((c0.toNat:Nat):Int) !=((c.toNat:Nat):Int))=true:=by
  rw[bne_iff_ne];intro h0;exact e6 (lK6.1 (by omega))
 refine ag d2 ?_;refine⟨_,Sat.ld h (.head _) (i:=0) rfl,_,_,kK ni _ w,af rfl (af rfl ?_)⟩;refine Sat.bx h λlb w h=>?_
 have h:Sat σ w (iv E a6::(lb,cel [.int .i32 (IntKind.i32.wrap (c.toNat:Nat)),hY (num:Nat),hV false,kT none,.nilFunc] gj)::(O,cel [kT (kE b)] ah)::t.at I::(p.at b::M++(t'.at a7::l.at b1::K))):=h.re
 refine h.stA 0 λw h=>?_
 rw[Au] at h;have h:Sat σ w (iv E lb::cP lb c.toNat (num:Nat) false none .nilFunc::(O,cel [kT (kE b)] ah)::t.at I::(p.at b::M++(t'.at a7::l.at b1::K))):=h
 refine⟨_,Sat.ld h (.tail _ (.tail _ (.head _))) (i:=0) rfl,_,Sat.ld h (.head _) (i:=0) rfl,?_⟩;have d0:DocC σ b (cP lb c.toNat (num:Nat) false none .nilFunc::(iv E lb::(O,cel [kT (kE b)] ah)::t.at I::l.at b1::L)) (gs++top::U::V) .none p w:=by
  refine⟨M,c4,[],[],by rw[lG0];exact hs,d3,e7,⟨rfl,rfl⟩,?_⟩;rw[<-c1] at h;exact h.less [t'.at a7]
 refine qx (pb:=pb) (g3.close c9) (.tail _ (.tail _ (.tail _ (.tail _ e3)))) e1 g2 g1 d0 hd (by omega) e2 λw p' y b4 f f5 f6 e9 k1 k2 k3 k4 c8 f7 c5 g4 h=>⟨rfl,?_⟩
 obtain⟨b7,b5,g6,h2,e8,d1,b9,⟨rfl,rfl⟩,h⟩:=h;have c3: ∀(k:Bk),k.IM= []->k.D= []->aN (gs++ [y,k])=aN (gs++ [y])++k.own:=by
  intro k k1 k2;rw[show gs++ [y,k]=(gs++ [y])++ [k] by simp,bi,dC,k1,k2];simp[cZ,txc,cj]
 have e5:f.own= [cP lb c.toNat (num:Nat) false none .nilFunc]:=f7
 rw[c3 f g4 c5,e5] at h;have h:Sat σ w (cP lb c.toNat (num:Nat) false none .nilFunc::t.at I::iv E lb::(p'.at b::b7++(b5++(aN (gs++ [y])++((O,cel [kT (kE b)] ah)::l.at b1::L))))):=h.re
 refine qQ h ht λw W ib h=>?_
 let b3:Bk:=⟨f.ob,[cP lb c.toNat (num:Nat) false none (li O W E I)],[],[]⟩
 refine g5 w p' y b4 b3 lb O I E W ib f5 f6 e9 k1 k2 k3 k4 c8 rfl rfl rfl ⟨b7,b5,[],[],?_,?_,?_,⟨rfl,rfl⟩,?_⟩
 ·have:(gs++ [y,b3]).map Bk.ob++ []=(gs++ [y,f]).map Bk.ob++ []:=by simp[b3]
  rw[this];exact e8
 ·have:txF (gs++ [y,b3])=txF (gs++ [y,f]):=by simp[txF,b3,c5]
  rw[this];exact d1
 ·intro k b8;simp only[lP0,lW0,lH1,or_false] at b8;rcases b8 with b8|rfl|rfl
  ·exact b9 k (by simp[b8])
  ·exact b9 _ (by simp)
  ·have g0:=b9 f (by simp);refine⟨?_,by show 0<100000;decide,g0.2.2⟩
   show Sl 1 aO f.ob.q f.ob.n f.ob.c [] []
   rw[c8];exact Sl.nil 1 aO
 ·rw[c3 b3 rfl rfl]
  show Sat σ w (p'.at b::b7++(b5++((aN (gs++ [y])++ [cP lb c.toNat (num:Nat) false none (li O W E I)])++([]++(l.at b1::(fJ b O I E W lb ib n (!t.blank) t++L))))))
  have h:Sat σ w (cP lb c.toNat (num:Nat) false none (li O W E I)::t.at I::iv E lb::jK W ib::gC ib lb n (!t.blank)::(p'.at b::b7++(b5++(aN (gs++ [y])++((O,cel [kT (kE b)] ah)::l.at b1::L))))):=h
  unfold fJ;exact h.re
theorem Bc (i0:op.task=false){h1:OA->Nat->WP}{b b1 pb num n:Nat}{xs:List IN}{gs junk:List Bk}{top:Bk}{p:PS}{l l2:Ln}{x c d:UInt8}{r r2:List UInt8}(f6:Runs R h1 b b1)(d1:Pd G op xs junk .none)(s5:junk= []\/ ∃W b4 g3 c0 num0 g4,junk=W::b4/\W.isList g3 (UInt8.toNat c0) num0 g4/\c0≠c)(h:DocC σ b (l.at b1::L) (gs++top::junk) .none p w)(hd:p.depth=gs.length)(o4:gs.length<90000)(ht:top.box_)(O:l.has x r)(hc:yD x)(e6:l.isHR=false)(e9:qB l c num n l2)(e3:l2.has d r2)(g0:cO d=false)(r9: ∀E∈gs++top::junk,E.D.length<=90000)(s9:(txF (gs++top::junk)).length<=90000)(m4:p.pz=kE pb)(n2:op.at pb∈L)(f7:p.lineno<1000000000)(d2: ∀(X:OA->Nat->WP),(∀h5 h2 w,ak.bl102 R X h5 h2 w->X h5 h2 w)-> ∀w (p':PS) y c9 f E lb it,p'.base=p.base->p'.lineno=p.lineno->p'.depth=p.depth+2->y.like top->y.D=top.D++c9->TDs G op c9 xs->(cj c9).length<=(txF junk).length+1->
  f.isList lb c.toNat (num:Nat) it->f.D= []->ItemOf it E lb n true->E.D= []->f.ob.s=p.lineno->E.ob.s=p.lineno->E.ob.e=p.lineno->DocC σ b (l2.at b1::L) (gs++y::f:: [E]) .none p' w->X (kE b) b1 w):
 ak.bl102 R h1 (kE b) b1 w:=by
 obtain⟨t5,s6,t1,h6,h3⟩:=ht;rcases s5 with rfl|⟨W,b4,g3,c0,num0,g4,rfl,n0,q8⟩
 ·have m6:xs= []:=by cases d1;rfl
  subst m6;refine CD f6 h hd (by omega) t1 h6 h3 O hc e6 e9 e3 g0 f7 λX e4 w p' f E lb it a1 a2 a3 a4 a5 r8 s8 a8 a9 a10 h=>?_
  refine d2 X e4 w p' top [] f E lb it a1 a2 a3 (.refl top) (by simp) .nil (by simp[cj]) a4 a5 r8 s8 a8 a9 a10 ?_
  simpa using h
 ·have i8:cO x=false:=hc.1;have g6:=e3.blank g0;have h0:=h;obtain⟨M,d3,t9,u4,hs,n1,o2,⟨rfl,rfl⟩,h⟩:=h;rw[lG0] at hs;have h:Sat σ w (p.at b::M++(l.at b1::(d3++(aN (gs++top::W::b4)++L)))):=h.re
  have g2:top.np:=⟨t5,s6,t1,h6⟩;refine jV (l2:=l) 4 (by decide) h (jU (oz hs hd (by omega) g2 d1.next (d1.last rfl gs top g2) O.ok) O hc e6) O.ok (O.blank i8) λw nb e h4 h d0=>?_
  show callE P cm _ h4 w
  refine cQ.sound ?_;refine Sat.bx h λb2 w h=>?_
  refine Sat.bx h λc4 w h=>?_
  have h:Sat σ w (p.at b::M++(zLn c4::l.at b2::(l.at b1::(nb,cel newsC e)::(d3++(aN (gs++top::W::b4)++L))))):=by
   have h:Sat σ w (zLn c4::l.at b2::(p.at b::M++(l.at b1::(nb,cel newsC e)::(d3++(aN (gs++top::W::b4)++L))))):=h
   exact h.re
  refine ro h hs hd λw h=>?_
  rw[show ((gs++top::W::b4).map Bk.ob)[gs.length]? =some top.ob by simp];dsimp only;refine⟨_,rfl,none,false,w,by rw[t1];exact ie h3 w,af rfl (af rfl ?_)⟩;have k0:DocC σ b (l.at b2::(zLn c4::l.at b1::(nb,cel newsC e)::L)) (gs++top::W::b4) .none p w:=⟨M,d3,[],[],by rw[lG0];exact hs,n1,o2,⟨rfl,rfl⟩,h.re⟩
  refine wX (pb:=pb) i0 d1 n0 q8 k0 hd o4 r9 s9 m4 (.tail _ (.tail _ (.tail _ n2))) f7 O.ok e9 λw p' y c9 f lb c5 c8 b8 b7 ib r4 h7 r6 k1 k2 k3 k4 e0 h8 s1 u8 h=>⟨_,rfl,ag rfl ?_⟩
  rw[g6,show (!false)=true from rfl] at h;have v0:=h;obtain⟨b5,b9,t8,u2,g5,l5,j1,⟨rfl,rfl⟩,h⟩:=h;have h:Sat σ w (zLn c4::l.at b2::(l.at b1::p'.at b::(b5++(b9++(aN (gs++ [y,f])++(fJ b c5 c8 b8 b7 lb ib n true l2++((nb,cel newsC e)::L))))))):=h.re
  repeat (first|refine aa ?_|refine h.tk λw h=>?_|refine⟨_,h.ldA,?_⟩|refine⟨_,_,_,h.ldA,?_⟩|refine h.stA 0 λw h=>?_|refine h.stA 1 λw h=>?_|refine h.stA 2 λw h=>?_|refine h.stA 3 λw h=>?_|refine h.stA 4 λw h=>?_|refine h.stA 5 λw h=>?_|refine h.stA 6 λw h=>?_|refine h.bx λb0 w h=>?_)
  have h:Sat σ _ (l.at c4::l.at b2::(l.at b1::p'.at b::(b5++(b9++(aN (gs++ [y,f])++(fJ b c5 c8 b8 b7 lb ib n true l2++((nb,cel newsC e)::L))))))):=h
  refine d0 _ _ p' (by omega) h.tail.tail λw h=>?_
  refine f6 w λX e4=>?_
  let V:PS:= {p' with depth:=p'.depth+1}
  rw[lG0] at g5;have g1:Stk V ((gs++ [y,f]).map Bk.ob) b5:=g5.of rfl rfl rfl;have m2:Stk V ((gs++ [y]).map Bk.ob++ [f.ob]) b5:=by simpa using g1
  have e5:V.depth=(gs++ [y]).length:=by show p'.depth+1=_;rw[r6,hd];simp
  have h:Sat σ w (V.at b::b5++(l.at b1::(b9++(aN (gs++ [y,f])++(fJ b c5 c8 b8 b7 lb ib n true l2++((nb,cel newsC e)::L)))))):=by
   have h:Sat σ w (l.at b1::V.at b::(b5++(b9++(aN (gs++ [y,f])++(fJ b c5 c8 b8 b7 lb ib n true l2++((nb,cel newsC e)::L)))))):=h
   exact h.re
  refine jV (l2:=l2) 4 (by decide) h (jU (λσ w L R r5 s7=>ly r5 m2 e5 (by simp) (by rw[e0];rfl) (by decide) O.ok s7) O hc e6) e3.ok g6 λw e7 e8 t6 h o3=>?_
  show callE P cm _ t6 w
  have o0:DocC σ b (fJ b c5 c8 b8 b7 lb ib n true l2++(l.at b1::(e7,cel newsC e8)::(nb,cel newsC e)::L)) ((gs++ [y])++f:: []) .none V w:=by
   have s3:(gs++ [y])++f:: []=gs++ [y,f]:=by simp
   rw[s3];exact⟨b5,b9,[],[],by rw[lG0];exact g1,l5.of rfl rfl rfl,j1,⟨rfl,rfl⟩,h.re⟩
  refine HF (Post:=λv3 e1=>e1.ob=f.ob/\e1.D= []) (l:=l) o0 ⟨by rw[e0],h8⟩ e5 (by simp;omega) (by show p'.lineno<_;omega) (λv4 h4 w u1 h d0=>?_) λw b6 v2 e1 I U i2 s2 s4 r7 m1 i1 j0 r3 i3 q0 q4 h=>?_
  ·have t0:(((gs++ [y]).length:Int)+1)=(((gs++ [y]).length+1:Nat):Int):=by omega
   rw[t0];refine wO h (by simp) λX d2=>?_
   refine wP d2 h (by simp) ?_;exact d0 w V f none ⟨rfl,s1⟩ rfl rfl rfl ⟨by rw[e0],h8⟩ (by simpa using h)
  ·obtain⟨h9,f5,t7,u0,m5,q5,i4,⟨rfl,rfl⟩,h⟩:=h;have h:Sat σ w (l.at b1::b6.at b::(h9++(f5++(aN ((gs++ [y])++ [I,U])++([]++((e7,cel newsC e8)::(nb,cel newsC e)::L)))))):=h.re
   have n3:b6.depth=((gs.length+1:Nat):Int):=by rw[r7,e5];simp
   refine o3 w _ b6 (by omega) h λw h=>?_
   obtain⟨t4,m3⟩:=i2;have g7:V.lineno=p.lineno:=h7;refine d2 X e4 w {b6 with depth:=b6.depth+1} y c9 I U lb (kE ib) (s2.trans r4) (s4.trans h7) (by show b6.depth+1=_;rw[n3,hd];omega) k1 k2 k3 k4 m1 (by rw[j0];exact m3) r3 i3 (by rw[i1,t4,e0]) (by rw[q0];exact g7) (by rw[q4];exact g7) ⟨h9,f5,[],[],?_,?_,?_,⟨rfl,rfl⟩,?_⟩
   ·have:(gs++y::I:: [U]).map Bk.ob++ []=((gs++ [y])++ [I,U]).map Bk.ob++ []:=by simp
    rw[this];exact m5.of rfl rfl rfl
   ·have:txF (gs++y::I:: [U])=txF ((gs++ [y])++ [I,U]):=by simp[txF]
    rw[this];exact q5.of rfl rfl rfl
   ·intro k d0;exact i4 k (by simpa using d0)
   ·have:aN (gs++y::I:: [U])=aN ((gs++ [y])++ [I,U]):=by simp[aN]
    rw[this];exact h.less [(e7,cel newsC e8),(nb,cel newsC e)]

theorem contS {b b1 pb s:Nat}{c5:OA->Nat->WP}{gs:List Bk}{top:Bk}{p:PS}{ls:List (List UInt8)}{l:Ln}(h:DocC σ b (l.at b1::L) (gs++ [top]) (pv s ls) p w)(hd:p.depth=gs.length)(e5:gs.length<900000)(ht:top.box_)(a6:l.cont)(e4:ls.length<1048569)(b6:p.pz=kE pb)(b9:op.at pb∈L)(b7:op.table=false)(c1:p.lineno<1000000000)(e2: ∀w,DocC σ b L (gs++ [top.setE p.lineno]) (pv s (ls++ [l.rest])) p w->R (hQ (.tuple #[])) w):ak.bl102 R c5 (kE b) b1 w:=by
 obtain⟨M,y,e3,W,hs,b4,O,⟨g,e,rfl,d2,b5,e7,e6⟩,h⟩:=h;obtain⟨td,vd,t1,e9,c8⟩:=ht;have h:Sat σ w (p.at b::M++(l.at b1::(y++(aN (gs++ [top])++(W++L))))):=h.re
 have a7:((gs++ [top]).map Bk.ob)[gs.length]? =some top.ob:=by simp
 refine ve h (Bx (fs:=(gs++ [top]).map Bk.ob) hs rfl hd (by omega) (by simp) a7 t1 c8 (λo1 U=>?_) a6) λw nb E e8 h b8=>?_
 ·rw[lV1 (by simp)] at U;cases U
 have h:Sat σ w (p.at b::M++(W++(l.at b1::(nb,cel newsC E)::(y++(aN (gs++ [top])++L))))):=h.re
 have d3:op.at pb∈l.at b1::(nb,cel newsC E)::(y++(aN (gs++ [top])++L)):=by simp[b9]
 refine vL (d:=gs.length) h hs rfl hd (by simp) b6 d3 b7 d2 (by omega) a6.plain.ok λw e0 b3 V c2 h=>b8 w true ?_
 have I:Sims (gs++ [top]) (gs++ [top.setE p.lineno]):=Sims.append (Sims.refl λf d0=>(O f (by simp[d0])).2.2.2) (.cons (top.setE_sim c1) .nil);have c3:((gs++ [top]).map Bk.ob++ [kj g s e]).take gs.length++(((gs++ [top]).map Bk.ob++ [kj g s e]).drop gs.length).map (·.setE p.lineno)=(gs++ [top.setE p.lineno]).map Bk.ob++ [kj g s p.lineno]:=by
  have d1:(gs++ [top]).map Bk.ob++ [kj g s e]=gs.map Bk.ob++ [top.ob,kj g s e]:=by simp
  rw[d1,lS3 (by simp),lM2 (by simp),lB2 (by simp),lI6 (by simp)];simp[Bk.setE,OB.setE,kj]
 rw[c3] at V;obtain⟨c9,c4⟩:=I.mem;refine e2 w ⟨e0,y,_,b3,V,by rw[c4];exact b4,I.ok O,⟨g,p.lineno,rfl,c2,b5,by simp,by simp;omega⟩,?_⟩;rw[c9];exact h.less [l.at b1,(nb,cel newsC E)]

theorem Sl.pop {e:TypeId}{q:Option Addr}{n c:Nat}{vs:List Value}{v:Value}{M:List ai}(h:Sl 1 e q (n+1) c (vs++ [v]) M):Sl 1 e q n c vs M:=by
 obtain⟨y,E,⟨_,g,_⟩|⟨b,sp,rfl,rfl,g⟩⟩:=h
 ·omega
 ·refine⟨by simp at y;omega,by omega,.inr ⟨b,v::sp,rfl,by simp,by simpa using g⟩⟩
def BV (c:UInt8):Nat:=if c=61 then 1 else 2
def rR (hb t s e s' e' lv:Nat)(raw:List UInt8):DB:=⟨.iface gH (kT (kE hb)),[pB hb s e lv t []],[⟨t,s',e',raw⟩]⟩

theorem yT {b nb n:Nat}{c:UInt8}{v:Int}{e:TypeId}{l:Ln}(hc:c=61\/c=45)(b4:1<=n)(y:LnR l (hN n c))(h:Sat σ w (l.at b::(nb,cel [hY v] e)::L))(E: ∀w,Sat σ w (l.at b::(nb,cel [hY (BV c:Int)] e)::L)->R (hQ (hV true)) w):callE P fG #[kT (kE b),kT (kE nb)] R w:=by
 have W:cO c=false:=by rcases hc with rfl|rfl<;>decide
 obtain⟨m,rfl⟩: ∃m,n=m+1:=⟨n - 1,by omega⟩
 have O:l.has c (hN m c):=LnR.has (by rw[<-lA2];exact y);refine cR.sound ?_
 repeat (first|refine aa ?_|refine h.tk λw h=>?_|refine⟨_,h.ldA,?_⟩|refine⟨_,_,_,h.ldA,?_⟩|refine h.stA 0 λw h=>?_|refine h.stA 1 λw h=>?_|refine h.stA 2 λw h=>?_|refine h.stA 3 λw h=>?_|refine h.stA 4 λw h=>?_|refine h.stA 5 λw h=>?_|refine h.stA 6 λw h=>?_|refine h.bx λb0 w h=>?_)
 have h:Sat σ _ (l.at b0::l.at b::(nb,cel [hY v] e)::L):=h
 refine lead_ok (max:=3) h y.ok (by decide) λw h=>⟨_,rfl,?_⟩
 rw[O.lead W 2] at h;refine my h (.head _) y.ok λw h=>⟨_,rfl,?_⟩
 rw[O.peek,u8b _ 45 45 rfl,u8b _ 61 61 rfl];refine ag (by rcases hc with rfl|rfl<;>decide) ?_;intro X I;have V: ∀k (l2:Ln) w,LnR l2 (hN k c)->Sat σ w (l2.at b0::l.at b::(nb,cel [hY v] e)::L)->X (kE nb) b0 (c.toNat:Int) w:=by
  intro k
  induction k with
  |zero=>
   intro l2 w g h;have g:LnR l2 []:=g;have a6:=g.lenNil;refine I _ _ _ _ ?_;refine trimC_ok (c:=c) rfl h g.ok ?_;have ht:l2.trimC c=none:=by
    have a7:l2.text[l2.i]? =none:=lV1 a6;unfold Ln.trimC;rw[if_neg (by rw[g.sp];omega),if_neg (by rw[a7];simp)]
   rw[ht];intro w h;refine⟨_,rfl,af rfl ?_⟩;refine rG h g.ok λw h=>⟨rfl,?_⟩
   refine F3 h (.head _) λw h=>⟨_,rfl,?_⟩
   have U:decide (l2.skip.text.length<=l2.skip.i)=true:=by
    have hd:=g.tx;simp[Ln.skip,hd]
   rw[U];refine ag rfl ?_;rw[u8b _ 61 61 rfl];have h:Sat σ w ((nb,cel [hY v] e)::l2.skip.at b0::l.at b::L):=h.re
   rcases hc with rfl|rfl
   ·refine ag rfl (aa ?_);refine h.stA 0 λw h=>?_
    have h:Sat σ w ((nb,cel [hY ((BV 61:Nat):Int)] e)::l2.skip.at b0::l.at b::L):=h
    exact E w (h.less [l2.skip.at b0])
   ·refine af rfl (aa ?_);refine h.stA 0 λw h=>?_
    have h:Sat σ w ((nb,cel [hY ((BV 45:Nat):Int)] e)::l2.skip.at b0::l.at b::L):=h
    exact E w (h.less [l2.skip.at b0])
  |succ k b3=>
   intro l2 w g h;have g:LnR l2 (c::hN k c):=by rw[<-lA2];exact g
   refine I _ _ _ _ ?_;refine trimC_ok (c:=c) rfl h g.ok ?_;rw[g.has.trimC,if_pos rfl];intro w h;refine⟨_,rfl,ag rfl ?_⟩;exact b3 _ w (LnR.skip (a:= [c]) g) h
 exact V (m+1) l w y h
theorem Co {nb t s e s' e' lv:Nat}{raw:List UInt8}(hs:s<1000000000)(V:e<2000000000)(y:mu (G raw))(O:jW none [] op raw (G raw)):TD G op (rR nb t s e s' e' lv raw) (.mk {kind:=5,num:=(lv:Nat),s:=s,e:=e} (eK (G raw))):=by
 have ht:(rR nb t s e s' e' lv raw).tree G (.mk {kind:=5,num:=(lv:Nat),s:=s,e:=e} (eK (G raw))):=by
  intro ts ht;cases ht with
  |cons g E U=>
   cases U
   rw[<-E] at y⊢;exact⟨_,ql (nb:=nb) (t:=t) (s:=s) (e:=e) (s':=s') (e':=e') (lv:=lv) (raw:=raw) (id:= []) g.1 (fa y g.2.2) g.2.1 (by decide),λa=>by simp[rR,gi,yi]⟩
 refine⟨ht,?_,.inr ⟨_,_,rfl,by decide⟩,⟨kr nC rfl (.head _),?_,hs,V⟩,λx I=>?_⟩
 ·rw[eC (d:=rR nb t s e s' e' lv raw) rfl (by decide)];exact ht
 ·show ((s:Int).toNat,(e:Int).toNat)=(s,e)
  simp
 ·obtain rfl:=lN0.1 I;exact O

theorem GA (g2:op.task=false){i4:OA->Nat->WP}{b b1 pb s n:Nat}{c:UInt8}{gs:List Bk}{top:Bk}{p:PS}{ls:List (List UInt8)}{l:Ln}(h:DocC σ b (l.at b1::L) (gs++ [top]) (pv s ls) p w)(hd:p.depth=gs.length)(n1:gs.length<90000)(hc:c=61\/c=45)(f7:1<=n)(c4:LnR l (hN n c))(j0:yC G op ls)(g0: ∀g∈gs++ [top],g.D.length<=90000)(m3:(txF (gs++ [top])).length<=90000)(h1:p.pz=kE pb)(h8:op.at pb∈L)(n0:p.lineno<1000000000)(b6: ∀w (p':PS) a6 hb t,p'.base=p.base->p'.lineno=p.lineno->a6.like top->a6.D=top.D++ [rR hb t s p.lineno s (s+ls.length - 1) (BV c) (bl [10] ls)]->s<1000000000->DocC σ b L (gs++ [a6]) .none p' w->R (hQ (.tuple #[])) w):
 ak.bl102 R i4 (kE b) b1 w:=by
 have f4:cO c=false:=by rcases hc with rfl|rfl<;>decide
 have c5:l.has c (hN (n - 1) c):=LnR.has (by rw[<-lA2,Nat.sub_add_cancel f7];exact c4);have m1:l.quote=none:=by unfold Ln.quote;rw[c5.lead f4 2,c5.trimC,if_neg (by rcases hc with rfl|rfl<;>decide)];rfl
 have h2:l.heading=none:=by unfold Ln.heading;rw[c5.lead f4 2,c5.trimC,if_neg (by rcases hc with rfl|rfl<;>decide)]
 have h0:=h;obtain⟨M,U,g3,a7,hs,d2,b9,⟨b7,e,rfl,i3⟩,h⟩:=h;have h:Sat σ w (p.at b::M++(l.at b1::(U++(aN (gs++ [top])++(a7++L))))):=h.re
 refine oR 2 (by decide) h ?_ λw c2 c9 j1 h E=>?_
 ·intro j o2 m4 σ w L R h b6
  match j,m4 with
  |0,_=>exact iU (x:= .nilIface) h c4.ok m1 b6
  |1,_=>exact l9 h c4.ok h2 b6
 show callE P cg _ j1 w
 refine bM.sound ?_;refine Sat.bx h λb2 w h=>?_
 refine Sat.bx h λO w h=>?_
 refine Sat.bx h λW w h=>?_
 repeat (first|refine aa ?_|refine h.tk λw h=>?_|refine⟨_,h.ldA,?_⟩|refine⟨_,_,_,h.ldA,?_⟩|refine h.stA 0 λw h=>?_|refine h.stA 1 λw h=>?_|refine h.stA 2 λw h=>?_|refine h.stA 3 λw h=>?_|refine h.stA 4 λw h=>?_|refine h.stA 5 λw h=>?_|refine h.stA 6 λw h=>?_|refine h.bx λb0 w h=>?_)
 have h:Sat σ _ (l.at b0::(W,cel [hY 0] ba)::zLn O::l.at b2::(p.at b::M++(l.at b1::(c2,cel newsC c9)::(U++(aN (gs++ [top])++(a7++L)))))):=h
 have h:Sat σ _ (p.at b::M++(l.at b0::(W,cel [hY 0] ba)::zLn O::l.at b2::(l.at b1::(c2,cel newsC c9)::(U++(aN (gs++ [top])++(a7++L)))))):=h.re
 refine mA (d:=gs.length) h hs hd (by omega) λw h=>?_
 rw[show ((gs++ [top]).map Bk.ob++ [kj b7 s e])[gs.length+1]? =some (kj b7 s e) by simp];refine⟨_,rfl,?_⟩;refine rC (l:=(gs++ [top]).map Bk.ob) h hs (o:=kj b7 s e) rfl (λw h=>?_) (λ_=>⟨_,rfl⟩);rw[if_pos rfl];refine⟨_,rfl,_,w,rV b7 _ _ w,ag rfl ?_⟩;have h:Sat σ _ (l.at b0::(W,cel [hY 0] ba)::(p.at b::M++(zLn O::l.at b2::(l.at b1::(c2,cel newsC c9)::(U++(aN (gs++ [top])++(a7++L))))))):=h.re
 refine yT hc f7 c4 h λw h=>⟨_,rfl,ag rfl ?_⟩
 generalize BV c=lv at h b6;have d0:DocC σ b ((W,cel [hY lv] ba)::zLn O::l.at b1::L) (gs++ [top]) (pv s ls) p w:=⟨M,U,_,a7,hs,d2,b9,⟨b7,e,rfl,i3⟩,h.less [l.at b0,l.at b2,(c2,cel newsC c9)]⟩
 have i0:=g0 top (by simp);refine va d0 j0.fin (by omega) (by omega) λw V y nb t x f5 i1 f6 b8 d1 h9 n3 h=>⟨_,rfl,?_⟩
 obtain⟨M,U,g3,a7,hs,d2,b9,⟨rfl,rfl⟩,h⟩:=h;have f1:=b9 y (by simp);have b4:=f1.1;rw[d1,lV0] at b4;have e6:y.ob.n=top.D.length+1:=by have:=b4.1;simp at this;omega
 rw[lG0,lV0] at hs;have hs:Stk V (gs.map Bk.ob++ [y.ob]) M:=hs;have c8:=hs.2.1;rw[lA0,lQ0,lE0] at c8;have e2:(gs.map Bk.ob).length=gs.length:=by simp
 obtain⟨sb,sp,e5,rfl,i2⟩:=hs.split (by simp);obtain⟨ib,f2,d3,e0⟩:=b4.rowAt (by omega);have e0:y.IM= [(ib,cel (top.D.map DB.v++ [(kM nb t s (s+ls.length - 1) (bl [10] ls)).v]++f2) aO)]:=e0;have f0:i64.wrap (((gs.length+1:Nat):Int) - 1)=((gs.length:Nat):Int):=by rw[i64_in _ (by omega)];omega
 have e9:i64.wrap (((top.D.length+1:Nat):Int) - 1)=((top.D.length:Nat):Int):=by rw[i64_in _ (by omega)];omega
 rw[bi,dC,d1,l8,ow] at h;have h:Sat σ w (V.at b::(sb,cel (aP (gs.map Bk.ob++ [y.ob])++sp) az)::(y.IM++(lQ nb s (s+ls.length - 1) t::(W,cel [hY lv] ba)::zLn O::l.at b1::(U++(aN gs++(y.own++(cZ top.D++(txc top.D++(fL t s (s+ls.length - 1) none 0 0 (bl [10] ls)::L))))))))):=by
  have h:Sat σ w (V.at b:: [(sb,cel (aP (gs.map Bk.ob++ [y.ob])++sp) az)]++(U++((aN gs++(y.IM++(y.own++((cZ top.D++ [lQ nb s (s+ls.length - 1) t])++(txc top.D++ [fL t s (s+ls.length - 1) none 0 0 (bl [10] ls)])))))++([]++((W,cel [hY lv] ba)::zLn O::l.at b1::L))))):=h
  exact h.re
 generalize e8:(lQ nb s (s+ls.length - 1) t::(W,cel [hY lv] ba)::zLn O::l.at b1::(U++(aN gs++(y.own++(cZ top.D++(txc top.D++(fL t s (s+ls.length - 1) none 0 0 (bl [10] ls)::L)))))))=K at h;refine jP.sound ?_;refine h.tk λw h=>?_
 refine aa (aa ?_);refine⟨_,_,_,h.ldA,?_⟩;refine⟨_,_,_,h.ldA,?_⟩;rw[c8,f0,e5];refine⟨by omega,by omega,aa ?_⟩;refine h.tk λw h=>?_
 simp only[lL0,lO0,lC0,lL1];have c1:(gs.map Bk.ob++ [y.ob])[gs.length]? =some y.ob:=by rw[<-e2];exact iO (l:=gs.map Bk.ob) y.ob
 refine⟨_,_,_,Sat.ld h (.tail _ (.head _)) (fD (j:=gs.length) (f:=1) (by decide) c1),_,_,_,Sat.ld h (.tail _ (.head _)) (fD (j:=gs.length) (f:=1) (by decide) c1),?_⟩;rw[e6,e9,d3];refine⟨by omega,by omega,aa ?_⟩;simp only[lL0,lO0,lC0,lA1];have h5:(ib,cel (top.D.map DB.v++ [(kM nb t s (s+ls.length - 1) (bl [10] ls)).v]++f2) aO)∈V.at b::(sb,cel (aP (gs.map Bk.ob++ [y.ob])++sp) az)::(y.IM++K):=by rw[e0];simp
 refine⟨_,Sat.ld h h5 (by rw[lD0,lI0 (by simp)];simp;rfl),⟨_,rfl,?_⟩⟩;refine⟨_,_,_,sV _ w,af rfl ?_⟩;refine fW.sound ?_;refine h.tk λw h=>?_
 refine aa (aa ?_);refine⟨_,_,_,h.ldA,?_⟩;refine⟨_,_,_,h.ldA,?_⟩;rw[c8,f0,e5];refine⟨by omega,by omega,aa ?_⟩;refine h.tk λw h=>?_
 simp only[lL0,lO0,lC0,lL1];refine⟨_,_,_,Sat.ld h (.tail _ (.head _)) (fD (j:=gs.length) (f:=1) (by decide) c1),_,_,_,Sat.ld h (.tail _ (.head _)) (fD (j:=gs.length) (f:=1) (by decide) c1),?_⟩;have m6:=b4.2.1;rw[e6,e9,d3];refine⟨_,_,_,λw=>vC rowBlock.ht rowBlock.hi ib (top.D.length+1) y.ob.c top.D.length (by omega) (by omega) w,?_⟩;refine Sat.st h (k:=1) rfl (by rw[lA0,aR,lA0,e2,lE0];omega) trivial rfl λw h=>?_
 let r2:OB:= {y.ob with q:=kE ib,n:=top.D.length,c:=y.ob.c}
 have g7:(aP (gs.map Bk.ob++ [y.ob])++sp).set (gs.length*4+1) (hT (kE ib) top.D.length y.ob.c)=aP (gs.map Bk.ob++ [r2])++sp:=by
  have:=lO (l:=gs.map Bk.ob) (sp:=sp) (o:=y.ob) (o':=r2) (f:=1) (v:= hT (kE ib) top.D.length y.ob.c) (by decide) rfl
  rw[e2] at this;exact this
 have e3:Stk V (gs.map Bk.ob++ [r2]) [(sb,cel (aP (gs.map Bk.ob++ [r2])++sp) az)]:=by
  refine Stk.mk' e5 ?_ (by rw[c8];simp) (by simp;omega);rw[<-i2];simp only[lA0,aR,lE0]
 have h6:Sl 1 aO r2.q r2.n r2.c (top.D.map DB.v) y.IM:=by
  have:=b4;rw[e6,d3] at this;exact this.pop
 refine⟨trivial,?_⟩;have h:Sat σ w (V.at b::(sb,cel (aP (gs.map Bk.ob++ [r2])++sp) az)::(y.IM++K)):=by
  rw[<-g7];exact h
 have f3:lQ nb s (s+ls.length - 1) t∈V.at b::(sb,cel (aP (gs.map Bk.ob++ [r2])++sp) az)::(y.IM++K):=by rw[<-e8];simp
 have h7:(W,cel [hY lv] ba)∈V.at b::(sb,cel (aP (gs.map Bk.ob++ [r2])++sp) az)::(y.IM++K):=by rw[<-e8];simp
 refine Sat.tk h λw h=>?_
 refine aa (aa (aa ?_));refine⟨_,Sat.ld h f3 (i:=0) rfl,_,Sat.ld h (.head _) (i:=3) rfl,_,Sat.ld h h7 (i:=0) rfl,_,Sat.ld h f3 (i:=2) rfl,?_⟩;refine Sat.bx h λhb w h=>?_
 rw[f6] at h;have h:Sat σ w (pB hb s p.lineno lv t []::V.at b::(sb,cel (aP (gs.map Bk.ob++ [r2])++sp) az)::(y.IM++K)):=h
 generalize c3:rR hb t s p.lineno s (s+ls.length - 1) lv (bl [10] ls)=d;have g1:d.own= [pB hb s p.lineno lv t []]:=by rw[<-c3];rfl
 have g6:d.txs= [⟨t,s,s+ls.length - 1,bl [10] ls⟩]:=by rw[<-c3];rfl
 let I:Bk:=⟨r2,y.own,top.D,y.IM⟩
 have d0:DocE σ b (d.own++(d.txs.map TX.chunk++(zLn O::l.at b1::L))) d.txs (gs++I:: []) V w:=by
  rw[g1,g6];refine⟨[(sb,cel (aP (gs.map Bk.ob++ [r2])++sp) az)],U,[],[],?_,?_,?_,⟨rfl,rfl⟩,?_⟩
  ·have:(gs++I:: []).map Bk.ob++ []=gs.map Bk.ob++ [r2]:=by simp[I]
   rw[this];exact e3
  ·have k0:txF (gs++I:: [])++ [⟨t,s,s+ls.length - 1,bl [10] ls⟩]=txF (gs++ [y]):=by
    rw[show gs++I:: []=gs++ [I] from rfl,bF,bF,dO,dO,d1,j4,lD0];rfl
   rw[k0];exact d2
  ·intro k E;rcases lP0.1 E with E|E
   ·exact b9 k (by simp[E])
   ·obtain rfl:=lN0.1 E;exact⟨h6,by show top.D.length<100000;omega,f1.2.2⟩
  ·rw[show gs++I:: []=gs++ [I] from rfl,bi,dC]
   show Sat σ w (V.at b:: [(sb,cel (aP (gs.map Bk.ob++ [r2])++sp) az)]++(U++((aN gs++(y.IM++(y.own++(cZ top.D++txc top.D))))++([]++([pB hb s p.lineno lv t []]++([fL t s (s+ls.length - 1) none 0 0 (bl [10] ls)]++(zLn O::l.at b1::L)))))))
   rw[<-e8] at h;exact h.less [lQ nb s (s+ls.length - 1) t,(W,cel [hY lv] ba)]
 refine rm (pb:=pb) (G:=G) (op:=op) (xs:= []) (Pd.closeE g2 .none rfl) (.tail _ (.tail _ h8)) (by rw[<-h1];exact pJ f5) (λk E=>?_) ?_ d0 (by rw[i1];exact hd) (by omega) (by rw[<-c3];rfl) (by simp) λw p' a6 l5 i8 o0 m2 k1 k2 k3 k4 h=>⟨rfl,?_⟩
 ·rcases lP0.1 E with E|E
  ·exact g0 k (by simp[E])
  ·obtain rfl:=lN0.1 E;exact i0
 ·have:txF (gs++I:: [])=txF (gs++ [top]):=by rw[show gs++I:: []=gs++ [I] from rfl,bF,bF,dO,dO]
  rw[this];exact m3
 obtain rfl:l5= []:=by cases k3;rfl
 obtain⟨e7,e4,m5,n2,e3,g5,g4,⟨rfl,rfl⟩,h⟩:=h;have h:Sat σ w (zLn O::l.at b1::(p'.at b::e7++(e4++(aN (gs++ [a6])++L)))):=h.re
 repeat (first|refine aa ?_|refine h.tk λw h=>?_|refine⟨_,h.ldA,?_⟩|refine⟨_,_,_,h.ldA,?_⟩|refine h.stA 0 λw h=>?_|refine h.stA 1 λw h=>?_|refine h.stA 2 λw h=>?_|refine h.stA 3 λw h=>?_|refine h.stA 4 λw h=>?_|refine h.stA 5 λw h=>?_|refine h.stA 6 λw h=>?_|refine h.bx λb0 w h=>?_)
 have h:Sat σ _ (zLn O::l.at b1::(p'.at b::e7++(e4++(aN (gs++ [a6])++L)))):=h
 refine E _ _ h.tail λw h=>?_
 refine b6 w p' a6 hb t (i8.trans f5) (m2.trans f6) ⟨k1.1.trans b8.1,k1.2.1.trans b8.2.1,k1.2.2.1.trans b8.2.2.1,k1.2.2.2.trans b8.2.2.2⟩ (by rw[c3];exact k2) h9 ⟨e7,e4,[],[],e3,g5,g4,⟨rfl,rfl⟩,h.re⟩

theorem tV {xs O:Array Value}: ∀ {fs:List Field} {gs:List (TypeId × Nat)},fs.map (λf=>(f.name== "_",f.type,f.offset))=gs.map (λy=>(false,y.1,y.2))->
 (∀y∈gs,∃u v r,(part y.1 xs y.2).run P w= .ok u w/\(part y.1 O y.2).run P w= .ok v w/\(Op.equalIn 9999 y.1 u v).run P w= .ok r w)->
 (∃y∈gs,∃u v,(part y.1 xs y.2).run P w= .ok u w/\(part y.1 O y.2).run P w= .ok v w/\(Op.equalIn 9999 y.1 u v).run P w= .ok false w)->(Op.eqFields 9999 xs O fs).run P w= .ok false w
 | [],[],_,_,hx=>by obtain⟨y,I,_⟩:=hx;cases I
 | [],y::gs,h,_,_=>by simp at h
 |f::fs,[],h,_,_=>by simp at h
 |f::fs,y::gs,h,I,hx=>by
  simp only[lP1,lU0,Prod.mk.injEq] at h;obtain⟨⟨b7,a7,b9⟩,b8⟩:=h;obtain⟨u,v,r,V,U,a6⟩:=I y (lZ1 ..);have b4:f.name≠ "_" :=by simpa using b7
  have b3:r=true->(Op.eqFields 9999 xs O fs).run P w= .ok false w:=by
   intro hr;refine tV b8 (λW E=>I W (lS1 _ E)) ?_;obtain⟨W,E,b5,b6,a1,a2,a3⟩:=hx;rcases lW0.1 E with rfl|E
   ·rw[V] at a1;rw[U] at a2
    cases a1;cases a2
    rw[a6,hr] at a3;cases a3
   ·exact⟨W,E,b5,b6,a1,a2,a3⟩
  rw[<-a7,<-b9] at V U;rw[<-a7] at a6;simp only[Op.eqFields,ne_eq,b4,not_false_eq_true,if_true,lX0,V,U,a6,lK0];cases r with
  |true=>simp only[Bool.not_true,lE3,if_false];exact b3 rfl
  |false=>simp
theorem EW {l m:Ln}(O:l.text≠m.text)(x I:Operand)(w:World):(do eqGuard .neq aW x I l.val m.val;binOp .neq aW l.val m.val).run P w= .ok (hV true) w:=by
 have E:(eqGuard .neq aW x I l.val m.val).run P w= .ok () w:=run_eqGuard_agg w .neq aW x I _ _ (by kernel_rfl);have hb:=run_neq_struct (P:=P) w aW #[hY l.sp,hY l.i,hY l.tab,hX (bs l.text),.int .u8 l.nl.toNat] #[hY m.sp,hY m.i,hY m.tab,hX (bs m.text),.int .u8 m.nl.toNat]
 have U:(Op.equalIn 10000 aW (.agg #[hY l.sp,hY l.i,hY l.tab,hX (bs l.text),.int .u8 l.nl.toNat]) (.agg #[hY m.sp,hY m.i,hY m.tab,hX (bs m.text),.int .u8 m.nl.toNat])).run P w= .ok false w:=by
  rw[run_equalIn_struct w 9999 aW _ _ (by kernel_rfl) (by kernel_rfl)];refine tV (gs:= [(ba,0),(ba,1),(ba,2),(aq,3),(dB,4)]) uR ?_ ⟨(aq,3),by simp,?_⟩
  ·intro V E;simp only[lW0,lZ5,or_false] at E;rcases E with rfl|rfl|rfl|rfl|rfl
   ·exact wu qF rfl rfl
   ·exact wu qF rfl rfl
   ·exact wu qF rfl rfl
   ·exact Hh rfl rfl
   ·exact wu FD rfl rfl
  ·refine⟨hX (bs l.text),hX (bs m.text),j7 nh (λ_ h=>by cases h) (λ_ _ h=>by cases h) rfl w,j7 nh (λ_ h=>by cases h) (λ_ _ h=>by cases h) rfl w,?_⟩;have e:((bs l.text).toList==(bs m.text).toList)=false:=by
    rw[cn,cn]
    simpa using O
   refine(run_equalIn_string w 9998 aq (bs l.text) (bs m.text) nh).trans ?_;rw[e]
 rw[lX0,E,lK0];refine hb.trans ?_;rw[U];rfl
theorem yj {X:OA->Nat->WP}(e3: ∀c1 b8 w,ak.bl1 R X c1 b8 w->X c1 b8 w){b b1 j:Nat}{p:PS}{ob:List OB}{o:OB}{M:List ai}{l l2:Ln}{ok:Bool}{Post:PS->List ai->Prop}(h:Sat σ w (l.at b1::(p.at b::M++L)))(hs:Stk p ob M)(hd:p.depth=j)(e9:j<1000000)(U:ob[j+1]? =some o)(e5:l.ok)(hb:l.blank=false)(c4: ∀p2 g,Post p2 g->p2= {p with corner:=p2.corner})(e0:ok=true\/l2.text≠l.text)(e2: ∀(b9:Ending->World->Prop) b0 w,Sat σ w (l.at b0::l.at b1::(p.at b::M++L))->(∀w p2 g,Post p2 g->Sat σ w (l.at b0::l.at b1::(p2.at b::M++g))->b9 (hQ (.tuple #[l2.val,hV ok])) w)->de P (callMethod o.bd "pub-paratext/pub/rscmarkdown.extend" #[kT (kE b),l.val]) b9 w)
 (e1:ok=true-> ∀w p2 g y,Post p2 g->Stk ({p2 with depth:=(j:Int)+1}:PS) (ob.set (j+1) (o.setE p.lineno)) y->Sat σ w (l2.at b1::(({p2 with depth:=(j:Int)+1}:PS).at b::y++g))->X (kE b) b1 w)
 (c3:ok=false-> ∀w p2 g y,Post p2 g->Stk p2 (ob.set (j+1) (o.setE p.lineno)) y->Sat σ w (l2.at b1::(p2.at b::y++g))->ak.k2 R (kE b) b1 w):X (kE b) b1 w:=by
 have b4:=(lJ0.1 U).1;have d3:=hs.2.2;have O:=hs.2.1;have e7:=hs;obtain⟨sb,sp,b3,c2,d1⟩:=hs.split (by intro e4;rw[e4] at b4;simp at b4);refine e3 _ _ _ ?_;have h:Sat σ w (l.at b1::p.at b::(M++L)):=h
 refine Sat.tk h λw h=>aa (aa ?_)
 refine⟨_,Sat.ld h (.tail _ (.head _)) (i:=5) rfl,_,_,_,Sat.ld h (.tail _ (.head _)) (i:=4) rfl,?_⟩;rw[hd,i64_in _ (by omega),O];refine ag (by simp;omega) ?_;refine⟨_,h.ldA,?_⟩;refine⟨_,h.ldA,?_⟩;refine⟨_,h.ldA,?_⟩;refine⟨_,h.ldA,?_⟩;refine⟨_,h.ldA,?_⟩;refine Sat.bx h λb0 w h=>?_
 refine h.stA 0 λw h=>?_
 refine h.stA 0 λw h=>?_
 refine h.stA 0 λw h=>?_
 refine h.stA 0 λw h=>?_
 refine h.stA 0 λw h=>?_
 have h:Sat σ w (l.at b0::l.at b1::p.at b::(M++L)):=h
 refine Sat.tk h λw h=>aa (aa ?_)
 refine⟨_,_,_,Sat.ld h (.tail _ (.tail _ (.head _))) (i:=4) rfl,_,Sat.ld h (.tail _ (.tail _ (.head _))) (i:=5) rfl,?_⟩;rw[hd,i64_in _ (by omega),O,b3];refine⟨by omega,by omega,aa ?_⟩;have b6:((j:Int)+1).toNat=j+1:=by omega
 rw[b6];simp only[lL0,lO0];have c5:(sb,cel (aP ob++sp) az)∈(l.at b0::l.at b1::p.at b::(M++L)):=by rw[c2];simp
 refine⟨o.bd,Sat.ld h c5 (fD (j:=j+1) (f:=0) (by decide) U),?_⟩;have I:l.at b1∈(l.at b0::l.at b1::p.at b::(M++L)):= .tail _ (.head _)
 refine⟨_,Sat.ld h I (i:=0) rfl,_,Sat.ld h I (i:=1) rfl,_,Sat.ld h I (i:=2) rfl,_,Sat.ld h I (i:=3) rfl,_,Sat.ld h I (i:=4) rfl,?_⟩;refine e2 _ b0 w h λw p2 g a7 h=>⟨_,_,_,_,_,_,rfl,?_⟩
 have E:=c4 p2 g a7;have b5:p2.depth=j:=by rw[E];exact hd
 have c8:p2.stn=ob.length:=by rw[E];exact O
 have d2:p2.stq=kE sb:=by rw[E];exact b3
 have c9:p2.lineno=p.lineno:=by rw[E]
 have e8:p2.stc=p.stc:=by rw[E]
 have h:Sat σ w (l.at b0::l.at b1::(p2.at b::M++g)):=h
 refine h.stA 1 λw h=>?_
 refine h.stA 1 λw h=>?_
 refine h.stA 1 λw h=>?_
 refine h.stA 1 λw h=>?_
 refine h.stA 1 λw h=>?_
 have h:Sat σ w (l.at b0::l2.at b1::(p2.at b::M++g)):=h
 refine dH h (.head _) e5 λw h=>⟨_,rfl,?_⟩
 rw[hb];have b7: ∀(a6:Bool) w,Sat σ w (l.at b0::l2.at b1::p2.at b::(M++g))->(∀w y,Stk p2 (ob.set (j+1) (o.setE p.lineno)) y->Sat σ w (l.at b0::l2.at b1::p2.at b::(y++g))->
  br (!a6) (ak.k2 R (kE b) b1 w) (ak.k3 R X (kE b) b1 w))->ak.k1 R X (kE b) b1 a6 true w:=by
  intro a6 w h e6;refine ag rfl (h.tk λw h=>aa (aa (aa ?_)));have V:p2.at b∈(l.at b0::l2.at b1::p2.at b::(M++g)):= .tail _ (.tail _ (.head _))
  refine⟨_,_,_,Sat.ld h V (i:=4) rfl,_,Sat.ld h V (i:=5) rfl,_,Sat.ld h V (i:=3) rfl,?_⟩;rw[b5,i64_in _ (by omega),c8,d2,c9];refine⟨by omega,by omega,aa ?_⟩;rw[b6];simp only[lL0,lO0,lL1];have h:Sat σ w ((sb,cel (aP ob++sp) az)::l.at b0::l2.at b1::p2.at b::g):=by
   rw[c2] at h;exact h.re
  refine Sat.st h (k:=0) rfl (by rw[lA0,aR];omega) trivial rfl λw h=>?_
  rw[vy U] at h;have h:Sat σ w ((sb,cel (aP (ob.set (j+1) (o.setE p.lineno))++sp) az)::l.at b0::l2.at b1::p2.at b::g):=h
  refine e6 w [(sb,cel (aP (ob.set (j+1) (o.setE p.lineno))++sp) az)] ?_ h.re;have d0:=Stk.setE (p:=p) (m:=p.lineno) b3 O d3 d1 U
  exact d0.of (by rw[E]) (by rw[E]) (by rw[E])
 cases ok with
 |true=>
  refine ag rfl (ag rfl ?_);refine b7 true w h λw y W h=>af rfl ?_
  unfold ak.k3;refine aa ⟨_,Sat.ld h (.tail _ (.tail _ (.head _))) (i:=5) rfl,aa ?_⟩;rw[b5,i64_in _ (by omega)];refine Sat.st h (k:=2) rfl (by simp[PS.cells]) trivial rfl λw h=>?_
  have h:Sat σ w (l.at b0::l2.at b1::({p2 with depth:=(j:Int)+1}:PS).at b::(y++g)):=h
  exact e1 rfl w p2 g y a7 (W.of rfl rfl rfl) (h.less [l.at b0])
 |false=>
  refine ag rfl (af rfl ?_);have h:Sat σ w (l.at b0::l2.at b1::p2.at b::(M++g)):=h
  refine⟨_,h.ldA,?_⟩;refine⟨_,h.ldA,?_⟩;refine⟨_,h.ldA,?_⟩;refine⟨_,h.ldA,?_⟩;refine⟨_,h.ldA,?_⟩;refine⟨_,h.ldA,?_⟩;refine⟨_,h.ldA,?_⟩;refine⟨_,h.ldA,?_⟩;refine⟨_,h.ldA,?_⟩;refine⟨_,h.ldA,?_⟩;refine⟨true,w,EW (e0.resolve_left (by decide)) (.tmp 55) (.tmp 56) w,?_⟩;refine b7 false w h λw y W h=>ag rfl ?_
  exact c3 rfl w p2 g y a7 W (h.less [l.at b0])

theorem EE {f:Nat}{s:List UInt8}(hs: ∀c∈s,c≠(96:UInt8)):uG 96 (hN f 96++s)=f:=by
 induction f with
 |zero=>
  cases s with
  |nil=>rfl
  |cons c s=>simp[uG,lC3,hs c (by simp)]
 |succ f g=>
  simp only[uG,lA2,lR0,lC3,beq_self_eq_true,if_true,lF0];exact congrArg (· +1) g
theorem mB {c:UInt8}(h:BW c=true):c≠96/\c≠92/\c≠38/\cO c=false/\c<128/\spB c=false:=by
 have hd: ∀c:Fin 256,BW (UInt8.ofNat c.val)=true->UInt8.ofNat c.val≠96/\UInt8.ofNat c.val≠92/\UInt8.ofNat c.val≠38/\cO (UInt8.ofNat c.val)=false/\UInt8.ofNat c.val<128/\spB (UInt8.ofNat c.val)=false:=by decide+kernel
 have:=hd ⟨c.toNat,c.toNat_lt⟩
 simpa using this (by simpa using h)
theorem nz {p:UInt8->Bool}{s:List UInt8}(h: ∀c∈s,p c=false):gI p s=s:=by
 have g: ∀ {t:List UInt8},(∀c∈t,p c=false)->t.dropWhile p=t:=by
  intro t ht;cases t with
  |nil=>rfl
  |cons c t=>rw[lB3,ht c (by simp)];rfl
 unfold gI wM;rw[g h,g (λc hc=>h c (by simpa using hc)),lO6]

def oX (g s e:Nat):OB:=⟨.iface ia (kT (kE g)),none,0,0,s,e⟩
theorem zN {b V s e:Nat}{p:PS}{ob:List OB}{par:OB}{M U IM:List ai}{inner:List Value}{F info:List UInt8}{ls:List (List UInt8)}(h:Sat σ w (p.at b::M++(IM++(U++L))))(hs:Stk p (ob++ [par]++ [oX V s e]) M)(c3:Sl 1 aO par.q par.n par.c inner IM)(b9:par.n<1000000)(c2:yG V F info ls U)(c5: ∀w p' b4 W nb q c g I E x,p'= {p with stn:=ob.length+1}->Stk p' (ob++ [{par with q:=I,n:=par.n+1,c:=E}]) b4->Sl 1 aq q ls.length c (sv ls) g->
  Sl 1 aO I (par.n+1) E (inner++ [.iface cL (kT (kE nb))]) W->Sat σ w (p'.at b::b4++(W++(B2 nb s e F info q ls.length c::(g++L))))->R (hQ x) w):
 callE P aJ #[kT (kE b)] R w:=by
 refine qr (ob:=ob) (par:=par) (o:=oX V s e) (IM:=IM) (inner:=inner) (λb3 a7 a6 q=> ∃nb y c g,b3=p/\Sl 1 aq y ls.length c (sv ls) g/\a7=B2 nb s e F info y ls.length c::(g++L)/\a6=cL/\q=kE nb) h hs rfl c3 b9 ?_ ?_
 ·intro c9 w h c8;have h:Sat σ w (p.at b::M++(U++(IM++L))):=h.re
  refine bq vO ?_;refine zE h hs c2 λw nb q c g O h=>?_
  have h:Sat σ w (p.at b::M++(B2 nb s e F info q ls.length c::(g++(IM++L)))):=h
  exact c8 w p _ cL _ rfl rfl rfl (by decide) ⟨nb,q,c,g,rfl,O,rfl,rfl,rfl⟩ (h.re)
 ·intro w p2 c4 b8 b3 a7 a6 q I E b5 b6 c1 b7 h;obtain⟨nb,y,c,g,rfl,O,rfl,rfl,rfl⟩:=b5;exact c5 w p2 c4 b8 nb y c g I E _ b6 c1 O b7 h
def m0 (nb s e:Nat)(F info:List UInt8)(q:Option Addr)(n c:Nat)(g:List ai):DB:=⟨.iface cL (kT (kE nb)),B2 nb s e F info q n c::g,[]⟩

theorem LnR.strip {c:UInt8}{r:List UInt8}(hc:cO c=false): ∀(k m n:Nat) {l:Ln},k<=m->LnR l (hN k 32++c::r)->l.strip m n=(n+k,{l with i:=l.i+k})
 |0,0,n,l,_,h=>by simp[Ln.strip]
 |0,m+1,n,l,_,h=>by
  have h:LnR l (c::r):=h
  have e:l.trimSp 1 1 false=none:=by unfold Ln.trimSp;rw[h.has.tsGo hc];rfl
  simp[Ln.strip,e]
 |k+1,0,n,l,hk,h=>absurd hk (by omega)
 |k+1,m+1,n,l,hk,h=>by
  have h:LnR l (32::(hN k 32++c::r)):=by rw[lA2] at h;exact h
  have e:l.trimSp 1 1 false=some {l with i:=l.i+1}:=LnR.tsPad (mn:=1) (e:=false) (s:=hN k 32++c::r) 1 0 h
  have g:=LnR.strip hc k m (n+1) (by omega) (LnR.skip (a:= [32]) h);simp only[Ln.strip,e];refine g.trans ?_
  show (n+1+k,({l with i:=l.i+1+k}:Ln))=(n+(k+1),{l with i:=l.i+(k+1)})
  rw[lH3 n,lH3 l.i,lD3,lD3]
theorem tT {f:Nat}{word:List UInt8}{l:Ln}(b6:3<=f)(E: ∀c∈word,BW c=true)(a7:LnR l (hN f 96++word)):
 ¬ yF l/\(∀n c t info,sf l n c t info->n=f/\c=96/\info=word)/\(l.strip 3 0).1=0/\sf l f 96 word word:=by
 obtain⟨y,rfl⟩: ∃y,f=y+1:=⟨f - 1,by omega⟩
 have b4:l.has 96 (hN y 96++word):=LnR.has (by rw[lA2] at a7;exact a7);have I:l.strip 3 0=(0,l):=b4.strip (by decide);have hr:uG 96 (hN (y+1) 96++word)=y+1:=EE λc hc=>(mB (E c hc)).1
 have b3: ∀t,UnE (gI cO word) t->t=word:=by
  intro t ht;have b8:gI cO word=word:=nz λc hc=>(mB (E c hc)).2.2.2.1
  rw[b8] at ht;exact ht.2 λc hc=>⟨(mB (E c hc)).2.1,(mB (E c hc)).2.2.1⟩
 have V: ∀n,n=y+1->(hN (y+1) (96:UInt8)++word).drop n=word:=by
  intro n b7;subst b7;rw[lM2 (by simp),lI6 (by simp)];rfl
 have a6:l.peek=96:=b4.peek;have O:l.text.drop l.i=hN (y+1) 96++word:=a7.tx;have W: ∀n,l.text.drop (l.i+n)=(hN (y+1) (96:UInt8)++word).drop n:=λn=>by rw[<-lN5,O]
 have b5:gI cO word=word:=nz λc hc=>(mB (E c hc)).2.2.2.1
 refine⟨?_,?_,by rw[I],?_⟩
 rotate_left 2
 ·unfold sf;rw[I];simp only[a6,O,W,hr];rw[V _ rfl,b5];refine⟨.inl ?_,b6,?_,?_,⟨by omega,λ_=>rfl⟩,?_,λ_ U=>(mB (E 96 U)).1 rfl⟩<;>trivial
 ·unfold yF;rw[I];simp only[a6,O,W,hr]
  rintro (⟨h,_⟩|h|⟨_,t,ht,U⟩)
  ·exact h rfl
  ·omega
  ·rw[V _ rfl] at ht;rw[b3 t ht] at U;exact(mB (E 96 U)).1 rfl
 ·intro n c t info;unfold sf;rw[I];simp only[a6,O,W]
  rintro ⟨h1,h2,h3,h4,h5,h6,h7⟩
  subst h3;rw[hr] at h4;subst h4;rw[V _ rfl] at h5;have:=b3 t h5;subst this;exact⟨rfl,rfl,h6.trans (nz λc hc=>(mB (E c hc)).2.2.2.1)⟩
def En (s e:Nat)(F info:List UInt8)(ls:List (List UInt8)):Leaf:= .other λob M=> ∃g,ob= [oX g s e]/\yG g F info ls M/\s<1000000000
theorem A5 (f6:op.task=false){i2:OA->Nat->WP}{b b1 pb f:Nat}{xs:List IN}{gs junk:List Bk}{top:Bk}{p:PS}{l:Ln}{word:List UInt8}{ec:ai}(c8:Pd G op xs junk .none)(h:DocC σ b (l.at b1::L) (gs++top::junk) .none p w)(hd:p.depth=gs.length)(e3:gs.length<900000)(ht:top.box_)(c1:LnR l (hN f 96++word))(g4:l.text.length<100000)(i4:3<=f)(q0:f<50000)(d0: ∀c∈word,BW c=true)(q4:word.length<10000)(n1:BP ec)(c5:ec∈L)(m1: ∀g∈gs++top::junk,g.D.length<=90000)(o2:(txF (gs++top::junk)).length<=90000)(h1:p.pz=kE pb)(h7:op.at pb∈L)(e1:p.lineno<1000000000)(V: ∀w (p':PS) E b4,p'.base=p.base->p'.lineno=p.lineno->E.like top->E.D=top.D++b4->TDs G op b4 xs->(cj b4).length<=(txF junk).length+1->DocC σ b L (gs++ [E]) (En p.lineno p.lineno (hN f 96) word []) p' w->R (hQ (.tuple #[])) w):
 ak.bl102 R i2 (kE b) b1 w:=by
 obtain⟨o0,m3,j0,_⟩:=tT i4 d0 c1;have W:=c1.ok;have a6:l.has 96 (hN (f - 1) 96++word):=LnR.has (by
  have e:f=(f - 1)+1:=by omega
  rw[e,lA2] at c1;exact c1)
 have b6: ∀e,l.lead 3 e=l:=a6.lead (by decide) 2
 have h2:(l.lead 3 false).peek=96:=by rw[b6];exact a6.peek
 have n0:l.quote=none:=by unfold Ln.quote;rw[b6,a6.trimC,if_neg (by decide)];rfl
 have h4:l.heading=none:=by unfold Ln.heading;rw[b6,a6.trimC,if_neg (by decide)]
 have g7:l.isHR=false:=by
  unfold Ln.isHR;simp only[b6,a6.peek];rw[if_neg (by decide)]
 have g6:LDecl l:=LDecl.of_peek W (by rw[a6.strip (by decide),a6.peek];decide);obtain⟨f5,e7,t1,m2,l5⟩:=ht;have e2:top.np:=⟨f5,e7,t1,m2⟩;obtain⟨M,d1,p5,q5,b8,h5,h9,⟨rfl,rfl⟩,h⟩:=h;rw[lG0] at b8;have h:Sat σ w (p.at b::M++(l.at b1::(d1++(aN (gs++top::junk)++L)))):=h.re
 have g2:=oz (b:=b) (l:=l) b8 hd e3 e2 c8.next (c8.last rfl gs top e2) W
 refine oR 6 (by decide) h ?_ λw nb e8 d2 h p3=>?_
 ·intro j r1 o3 σ w L R h V
  match j,o3 with
  |0,_=>exact iU (x:= .nilIface) h W n0 V
  |1,_=>exact l9 h W h4 V
  |2,_=>exact g2 σ w L R h V
  |3,_=>exact sH h W g7 V
  |4,_=>exact g6 b gs.length p _ top.ob M f5 e7 b8 hd (by simp) t1 l5 σ w L R h V
  |5,_=>exact oB h W (by rw[h2];decide) V
 show callE P kF _ d2 w
 generalize e6:l.at b1::(nb,cel newsC e8)::(d1++(aN (gs++top::junk)++L))=K at h
 have c5:ec∈K:=by rw[<-e6];simp[c5]
 refine dW.sound ?_;refine Sat.bx h λb2 w h=>?_
 refine Sat.bx h λy w h=>?_
 refine Sat.bx h λI w h=>?_
 refine Sat.bx h λO w h=>?_
 refine Sat.bx h λU w h=>?_
 repeat (first|refine aa ?_|refine h.tk λw h=>?_|refine⟨_,h.ldA,?_⟩|refine⟨_,_,_,h.ldA,?_⟩|refine h.stA 0 λw h=>?_|refine h.stA 1 λw h=>?_|refine h.stA 2 λw h=>?_|refine h.stA 3 λw h=>?_|refine h.stA 4 λw h=>?_|refine h.stA 5 λw h=>?_|refine h.stA 6 λw h=>?_|refine h.bx λb0 w h=>?_)
 have h:Sat σ _ (l.at b0::(U,cel [hY 0] ba)::(O,cel [hX (bs [])] aq)::(I,cel [hX (bs [])] aq)::(zLn y::l.at b2::(p.at b::(M++K)))):=h
 refine pR h W g4 n1 (by simp[c5]) (λk0=>absurd k0 o0) λn c t info m5 w h=>?_
 obtain⟨rfl,rfl,rfl⟩:=m3 n c t info m5;rw[j0] at h;refine⟨_,rfl,ag rfl ?_⟩;refine⟨_,Sat.ld h (.tail _ (.tail _ (.tail _ (.head _)))) (i:=0) rfl,by decide,by simp;omega,?_⟩;have i1:bt (bs (hN n (96:UInt8))) 0=96:=by
  have:=pH (l:=hN n (96:UInt8)) (i:=0) (by simp;omega)
  rw[show ((0:Nat):Int)=0 from rfl] at this;rw[this];simp
 refine af (by rw[i1];rfl) (af rfl ?_);have h:Sat σ w ((U,cel [hY ((0:Nat):Int)] ba)::(O,cel [hX (bs info)] aq)::(I,cel [hX (bs (hN n 96))] aq)::zLn y::(Ln.zero.at b0::l.at b2::(p.at b::(M++K)))):=h.re
 have k4: ∀w,Sat σ w ((U,cel [hY ((0:Nat):Int)] ba)::(O,cel [hX (bs info)] aq)::(I,cel [hX (bs (hN n 96))] aq)::zLn y::(Ln.zero.at b0::l.at b2::(p.at b::(M++K))))->dW.k4 d2 (kE b) y I O U w:=by
  intro w h;refine⟨_,Sat.ld h (.tail _ (.tail _ (.head _))) (i:=0) rfl,_,Sat.ld h (.tail _ (.head _)) (i:=0) rfl,_,Sat.ld h (.head _) (i:=0) rfl,?_⟩;refine Sat.bx h λa7 w h=>?_
  have h:Sat σ w (pN a7 (hN n 96) info none 0 0::(U,cel [hY ((0:Nat):Int)] ba)::(O,cel [hX (bs info)] aq)::(I,cel [hX (bs (hN n 96))] aq)::zLn y::(Ln.zero.at b0::l.at b2::(p.at b::(M++K)))):=h
  have g3:DocC σ b (pN a7 (hN n 96) info none 0 0::(zLn y::l.at b1::L)) (gs++top::junk) .none p w:=by
   refine⟨M,d1,[],[],by rw[lG0];exact b8,h5,h9,⟨rfl,rfl⟩,?_⟩;rw[<-e6] at h;exact h.less [(U,cel [hY ((0:Nat):Int)] ba),(O,cel [hX (bs info)] aq),(I,cel [hX (bs (hN n 96))] aq),Ln.zero.at b0,l.at b2,(nb,cel newsC e8)]
  refine qx (pb:=pb) (c8.close f6) (.tail _ (.tail _ h7)) h1 m1 o2 g3 hd e3 e1 λw p' E b4 c2 i3 n2 q8 k1 k2 k3 k4 p1 n3 m4 m6 h=>⟨rfl,?_⟩
  have i8:gs++ [E,c2]=(gs++ [E])++ [c2]:=by simp
  rw[i8] at h;have j1:(λ(ob:List OB) (M:List ai)=>ob= [oX a7 p.lineno p.lineno]/\yG a7 (hN n 96) info [] M) [c2.ob] c2.own:=⟨by rw[p1];rfl,by rw[n3];exact⟨none,0,[],Sl.nil 1 aq,rfl⟩⟩
  have h:=DocC.toLeaf (A:=λ(ob:List OB) (M:List ai)=>ob= [oX a7 p.lineno p.lineno]/\yG a7 (hN n 96) info [] M) h m4 m6 j1
  obtain⟨c9,c4,p4,c3,i0,g5,g1,⟨rfl,g0⟩,h⟩:=h;have h:Sat σ w (zLn y::l.at b1::(p'.at b::c9++(c4++(aN (gs++ [E])++(c3++L))))):=h.re
  repeat (first|refine aa ?_|refine h.tk λw h=>?_|refine⟨_,h.ldA,?_⟩|refine⟨_,_,_,h.ldA,?_⟩|refine h.stA 0 λw h=>?_|refine h.stA 1 λw h=>?_|refine h.stA 2 λw h=>?_|refine h.stA 3 λw h=>?_|refine h.stA 4 λw h=>?_|refine h.stA 5 λw h=>?_|refine h.stA 6 λw h=>?_|refine h.bx λb0 w h=>?_)
  have h:Sat σ _ (zLn y::l.at b1::(p'.at b::c9++(c4++(aN (gs++ [E])++(c3++L))))):=h
  refine p3 _ _ h.tail λw h=>?_
  exact V w p' E b4 i3 n2 k1 k2 k3 k4 ⟨c9,c4,_,c3,i0,g5,g1,⟨a7,rfl,g0,e1⟩,h.re⟩
 have k2:dW.k2 d2 (kE b) y I O U w:=by
  refine⟨_,Sat.ld h (.tail _ (.head _)) (i:=0) rfl,?_⟩;refine EL h λw f0 h=>?_
  intro X e5;have h6: ∀k i w,i+k=info.length->Sat σ w ((f0,.stringIter (bs info) i)::((U,cel [hY ((0:Nat):Int)] ba)::(O,cel [hX (bs info)] aq)::(I,cel [hX (bs (hN n 96))] aq)::zLn y::(Ln.zero.at b0::l.at b2::(p.at b::(M++K)))))->X (kE b) y I O U (kT (kE f0)) w:=by
   intro k
   induction k with
   |zero=>
    intro i w hi h;exact e5 _ _ _ _ _ _ _ (.inl ⟨_,EV h (by simp;omega),k4 w h.tail⟩)
   |succ k o4=>
    intro i w hi h;have e0:i<info.length:=by omega
    have h8:i<(bs info).size:=by simpa using e0
    have hc:=mB (d0 info[i] (lO1 e0));have f7:info[i].toNat<128:=lM6.1 hc.2.2.2.2.1;refine e5 _ _ _ _ _ _ _ (.inr (GN h h8 (by show info[i].toNat<128;exact f7) λw h=>?_))
    show callE P dL #[.int .i32 ((info[i].toNat:Nat):Int)] _ w
    refine mb hc.2.2.2.2.1 ⟨_,rfl,af hc.2.2.2.2.2 (o4 (i+1) w (by omega) h)⟩
  exact h6 info.length 0 w (by omega) h
 refine⟨_,Sat.ld h (.tail _ (.head _)) (i:=0) rfl,?_⟩
 by_cases hi:info= []
 ·refine af (by rw[hi,cn,gL];rfl) (af rfl k2)
 ·refine ag (by rw[cn,gL];simpa using hi) ?_;have d3:0<info.length:=lZ0.2 hi;refine⟨_,Sat.ld h (.tail _ (.head _)) (i:=0) rfl,λ_=>⟨by decide,by simp;omega⟩,?_⟩;have e4:=pH (l:=info) (i:=0) d3
  rw[show ((0:Nat):Int)=0 from rfl] at e4;rw[e4];refine zt ⟨_,rfl,?_⟩;rw[d0 info[0] (lO1 d3)];exact af rfl k2

theorem Fa {X:OA->Nat->WP}(a7: ∀b7 b6 w,ak.bl1 R X b7 b6 w->X b7 b6 w){b b1 s e:Nat}{p:PS}{gs:List Bk}{F info:List UInt8}{ls:List (List UInt8)}{l:Ln}{ec:ai}(h:DocC σ b (l.at b1::L) gs (En s e F info ls) p w)(hd:p.depth+1=gs.length)(e6:0<gs.length/\gs.length<900000)(b5:l.ok)(hb:l.blank=false)(d0:l.text.length<100000)(c3:ls.length<1048576)(d3:BP ec)(c4:ec∈L)(b8:wz F l)(e3: ∀w (p':PS),p'.base=p.base->p'.lineno=p.lineno->DocC σ b L gs (En s p.lineno F info (ls++ [l.str])) p' w->R (hQ (.tuple #[])) w):X (kE b) b1 w:=by
 obtain⟨M,O,e5,b4,hs,c5,d1,⟨E,rfl,e0,c8⟩,h⟩:=h;have c2:p.depth=((gs.length - 1:Nat):Int):=by omega
 have c9:(gs.map Bk.ob++ [oX E s e])[gs.length - 1+1]? =some (oX E s e):=by
  rw[show gs.length - 1+1=gs.length by omega];simp
 have c1:(gs.map Bk.ob++ [oX E s e]).set (gs.length - 1+1) ((oX E s e).setE p.lineno)=gs.map Bk.ob++ [oX E s p.lineno]:=by
  rw[show gs.length - 1+1=gs.length by omega,lR1 _ _ (by simp),lQ0,lQ1];rfl
 have h:Sat σ w (l.at b1::(p.at b::M++(b4++(O++(aN gs++L))))):=h.re
 refine yj (l2:=Ln.zero) (ok:=true) (Post:=λp2 b9=>p2= {p with corner:=p2.corner}/\ ∃g,yG E F info (ls++ [l.str]) g/\b9=g++(O++(aN gs++L))) a7 h hs c2 (by omega) c9 b5 hb (λ_ _ h=>h.1) (.inl rfl) (λe7 b0 w h e4=>?_) (λ_ w p2 b9 a6 e2 U h=>?_) (λh0=>absurd h0 (by decide))
 ·refine bq pd ?_;have h:Sat σ _ (p.at b::(b4++(l.at b0::l.at b1::(M++(O++(aN gs++L)))))):=h.re
  refine rU h e0 b5 c3 d0 d3 (by simp[c4]) (λ_ w p2 g y V h=>?_) (λh0=>absurd b8 h0) (.inl b8);exact e4 w p2 _ ⟨y,g,V,rfl⟩ h.re
 ·obtain⟨y,g,V,rfl⟩:=e2;rw[c1] at U;have e1:((gs.length - 1:Nat):Int)+1=(gs.length:Nat):=by omega
  rw[e1] at U h;generalize I:({p2 with depth:=(gs.length:Nat)}:PS)=p3 at h U;have d2:p3.depth=(gs.length:Nat):=by rw[<-I]
  have W:=U.2.1;rw[lA0,lQ0,lE0] at W;refine a7 _ _ _ ?_;have h:Sat σ w (Ln.zero.at b1::p3.at b::(a6++(g++(O++(aN gs++L))))):=h
  refine Sat.tk h λw h=>aa (aa ?_)
  refine⟨_,Sat.ld h (.tail _ (.head _)) (i:=5) rfl,_,_,_,Sat.ld h (.tail _ (.head _)) (i:=4) rfl,?_⟩;have b3:i64.wrap (p3.depth+1)=((gs.length+1:Nat):Int):=by rw[d2,i64_in _ (by omega)];omega
  rw[b3,W];refine af (by simp) ?_;unfold ak.k2;refine dH (l:=Ln.zero) h (.head _) ⟨by decide,by decide,by decide,by decide⟩ λw h=>⟨_,rfl,?_⟩
  refine ag rfl (aa ⟨_,Sat.ld h (.tail _ (.head _)) (i:=5) rfl,?_⟩);rw[b3];have h:Sat σ w (p3.at b::(Ln.zero.at b1::(a6++(g++(O++(aN gs++L)))))):=h.re
  refine o5 h (by rw[W]) λw h=>⟨rfl,?_⟩
  refine e3 w p3 (by rw[<-I,y];rfl) (by rw[<-I,y]) ⟨a6,O,_,g,U,c5.of (by rw[<-I,y]) (by rw[<-I,y]) (by rw[<-I,y]),d1,⟨E,rfl,V,c8⟩,?_⟩;exact h.less [Ln.zero.at b1]
theorem DN {b s e:Nat}{p:PS}{gs:List Bk}{top:Bk}{F info:List UInt8}{ls:List (List UInt8)}(h:DocC σ b L (gs++ [top]) (En s e F info ls) p w)(d1:top.D.length<=90000)(c4: ∀w I nb q c y x,I.like top->I.D=top.D++ [m0 nb s e F info q ls.length c y]->Sl 1 aq q ls.length c (sv ls) y->s<1000000000->DocC σ b L (gs++ [I]) .none {p with stn:=gs.length+1} w->R (hQ x) w):
 callE P aJ #[kT (kE b)] R w:=by
 obtain⟨M,U,c9,c2,hs,b7,W,⟨c8,rfl,c1,b8⟩,h⟩:=h;have hs:Stk p (gs.map Bk.ob++ [top.ob]++ [oX c8 s e]) M:=by simpa using hs
 obtain⟨V,b5⟩:=W top (by simp);have d0:top.ob.n=top.D.length:=by have:=V.1;simp at this;omega
 rw[bi,dC] at h;have h:Sat σ w (p.at b::M++(top.IM++(c2++(U++(aN gs++(top.own++(cZ top.D++(txc top.D++L)))))))):=h.re
 refine zN (ob:=gs.map Bk.ob) (par:=top.ob) h hs V (by omega) c1 λw p' b3 O nb q c y b4 a7 x b9 a6 c5 b6 h=>?_
 have c3:p'= {p with stn:=gs.length+1}:=by rw[b9,lQ0]
 rw[c3] at a6 h;refine c4 w ⟨{top.ob with q:=b4,n:=top.ob.n+1,c:=a7},top.own,top.D++ [m0 nb s e F info q ls.length c y],O⟩ nb q c y x ⟨rfl,rfl,rfl,rfl⟩ rfl c5 b8 ⟨b3,U,[],[],?_,?_,?_,⟨rfl,rfl⟩,?_⟩
 ·rw[lV0,lG0];exact a6
 ·have:txF (gs++ [⟨{top.ob with q:=b4,n:=top.ob.n+1,c:=a7},top.own,top.D++ [m0 nb s e F info q ls.length c y],O⟩])=txF (gs++ [top]):=by
   rw[bF,bF,dO,dO,j4];simp[m0]
  rw[this];exact b7.of rfl rfl rfl
 ·intro g E;rcases lP0.1 E with E|E
  ·exact W g (by simp[E])
  ·obtain rfl:=lN0.1 E;exact⟨by rw[lV0];exact b6,by simp;omega,b5.2⟩
 ·rw[bi,dC,l8,ow]
  show Sat σ w (_::b3++(U++(aN gs++(O++(top.own++((cZ top.D++(B2 nb s e F info q ls.length c::y))++(txc top.D++ []))))++([]++L))))
  exact h.re
theorem Ha {X:OA->Nat->WP}(e4: ∀b5 b4 w,ak.bl1 R X b5 b4 w->X b5 b4 w){b b1 s e:Nat}{p:PS}{gs:List Bk}{top:Bk}{F info:List UInt8}{ls:List (List UInt8)}{l:Ln}{ec:ai}(h:DocC σ b (l.at b1::L) (gs++ [top]) (En s e F info ls) p w)(hd:p.depth=gs.length)(g1:gs.length<900000)(a7:l.ok)(hb:l.blank=false)(d1:l.text.length<100000)(c5:ls.length<1048576)(e3:BP ec)(c8:ec∈L)(f0: ¬ wz F l)(d2:Ef F l)(e8:top.D.length<=90000)(f1: ∀w (p':PS) I nb q c O,p'.base=p.base->p'.lineno=p.lineno->I.like top->I.D=top.D++ [m0 nb s p.lineno F info q ls.length c O]->Sl 1 aq q ls.length c (sv ls) O->s<1000000000->DocC σ b L (gs++ [I]) .none p' w->R (hQ (.tuple #[])) w):X (kE b) b1 w:=by
 obtain⟨M,y,f4,g,hs,c9,d3,⟨E,rfl,a6,e0⟩,h⟩:=h;have d0:((gs++ [top]).map Bk.ob++ [oX E s e])[gs.length+1]? =some (oX E s e):=by simp
 have b9:((gs++ [top]).map Bk.ob++ [oX E s e]).set (gs.length+1) ((oX E s e).setE p.lineno)=(gs++ [top]).map Bk.ob++ [oX E s p.lineno]:=by
  rw[lR1 _ _ (by simp),lQ0,lA0,lE0,lQ1];rfl
 have b8:Ln.zero.text≠l.text:=by
  intro h0;have:l.blank=true:=by unfold Ln.blank;rw[<-h0,show Ln.zero.text= [] from rfl,List.drop_nil];rfl
  rw[hb] at this;cases this
 have h:Sat σ w (l.at b1::(p.at b::M++(g++(y++(aN (gs++ [top])++L))))):=h.re
 refine yj (l2:=Ln.zero) (ok:=false) (Post:=λp2 b6=>p2=p/\b6=g++(y++(aN (gs++ [top])++L))) e4 h hs hd (by omega) d0 a7 hb (λ_ _ h=>by rw[h.1]) (.inr b8) (λg3 b0 w h f2=>?_) (λh0=>absurd h0 (by decide)) (λ_ w p2 b6 W e9 U h=>?_)
 ·refine bq pd ?_;have h:Sat σ _ (p.at b::(g++(l.at b0::l.at b1::(M++(y++(aN (gs++ [top])++L)))))):=h.re
  refine rU h a6 a7 c5 d1 e3 (by simp[c8]) (λh0=>absurd h0 f0) (λ_ w h=>?_) (.inr d2);exact f2 w p _ ⟨rfl,rfl⟩ h.re
 ·obtain⟨rfl,rfl⟩:=e9;rw[b9] at U;unfold ak.k2;have h:Sat σ w (Ln.zero.at b1::p2.at b::(W++(g++(y++(aN (gs++ [top])++L))))):=h
  refine dH (l:=Ln.zero) h (.head _) ⟨by decide,by decide,by decide,by decide⟩ λw h=>⟨_,rfl,?_⟩
  refine ag rfl (aa ⟨_,Sat.ld h (.tail _ (.head _)) (i:=5) rfl,?_⟩);have e5:i64.wrap (p2.depth+1)=((gs.length+1:Nat):Int):=by rw[hd,i64_in _ (by omega)];omega
  rw[e5];have b7:DocC σ b (Ln.zero.at b1::L) (gs++ [top]) (En s p2.lineno F info ls) p2 w:=⟨W,y,_,g,U,c9,d3,⟨E,rfl,a6,e0⟩,h.re⟩
  refine aI.sound ?_;have V:=U.2.1;simp only[lA0,lQ0,lF0,lM1] at V;refine aa ?_;have h:Sat σ w (p2.at b::(Ln.zero.at b1::(W++(g++(y++(aN (gs++ [top])++L)))))):=h.re
  refine⟨_,_,_,h.ldA,?_⟩;rw[V];refine af (by simp;omega) ?_;intro Y b3;refine b3 _ _ _ (aa ?_);refine⟨_,_,_,h.ldA,?_⟩;rw[V];refine ag (by simp;omega) ?_;refine DN b7 e8 λw I nb q c O x e2 e6 e7 e1 h=>⟨_,rfl,?_⟩
  have h:=h.drop;have h0:=h;obtain⟨g4,g0,f3,f7,g2,f5,f6,⟨rfl,rfl⟩,h⟩:=h;refine b3 _ _ _ (aa ?_);refine⟨_,_,_,h.ldA,?_⟩;refine af (by simp) ⟨rfl,?_⟩;exact f1 w {p2 with stn:=gs.length+1} I nb q c O rfl rfl e2 e6 e7 e1 h0
theorem Gs {nb s e:Nat}{F info:List UInt8}{q:OA}{c:Nat}{ls:List (List UInt8)}{g:List ai}(U:Sl 1 aq q ls.length c (sv ls) g)(E:ls.length<1048576)(hb:(dK ls).length<1073741824)(y:ls.head? ≠some [])(I:F.length<1073741824)(hi:info.length<1073741824)(hs:s<1000000000)(V:e<2000000000):
 TD G op (m0 nb s e F info q ls.length c g) (.mk {kind:=7,text:=dK ls,title:=info,mark:=F,s:=s,e:=e} []):=by
 have ht:(m0 nb s e F info q ls.length c g).tree G (.mk {kind:=7,text:=dK ls,title:=info,mark:=F,s:=s,e:=e} []):=by
  intro ts ht;refine⟨_,Bq (nb:=nb) (s:=s) (e:=e) U E hb y I hi,λa=>?_⟩;cases ht
  simp[m0,gi]
 refine⟨ht,?_,.inr ⟨_,_,rfl,by decide⟩,⟨kr pX rfl (.head _),?_,hs,V⟩,λx O=>by simp[m0] at O⟩
 ·rw[eC (d:=m0 nb s e F info q ls.length c g) rfl (by decide)];exact ht
 ·show ((s:Int).toNat,(e:Int).toNat)=(s,e)
  simp

def OkL (ec:ai)(op:Opt)(Q:List DB->Prop):List (List UInt8)->Nat->List Bk->Leaf->Prop
 | [],_,fs,lf=>qE op fs lf Q
 |l::rem,n,fs,lf=> ∀nl,qz [ec] op (n+1) l nl fs lf (OkL ec op Q rem (n+1))
theorem y0 {gs0 fs:List Bk}{top0:Bk}(h:Sims (gs0++ [top0]) fs): ∃gs top,fs=gs++ [top]/\Sims gs0 gs/\top0.sim top:=by
 obtain⟨a,c,rfl,y,g⟩:=vD h;cases g with
 |cons k E=>cases E;exact⟨a,_,rfl,y,k⟩
theorem Bf {ec:ai}{n:Nat}{nl:UInt8}{cx:List CX}{s:List UInt8}{root top:Bk}{cf gs junk:List Bk}{lf:Leaf}{J:List Bk->Leaf->Prop}(b6:FrS cx cf)(c5:root.isRoot)(V:root::cf=gs++ [top])(e0: ∀a c a7,cx=a++c::a7->(ctx (c::a7) s).all cO=false)(f5:cx.length<1000)(c9:(ctx cx s).length<100000)(e8: ∀(σ:Out) (R:Ending->World->Prop) (L:List ai) (b b1 pb:Nat) (p:PS) (w:World) (X:OA->Nat->WP) (y:List Bk) (E W:Bk) (g:List Bk) (l2:Ln),(∀c3 c1 w,ak.bl1 R X c3 c1 w->X c3 c1 w)->ec∈L->op.at pb∈L->p.pz=kE pb->p.lineno=n+1->n+1<1000000000->
  Sims gs y->top.sim E->FrX (n+1) cx g->W.isRoot->W::g=y++ [E]->LnR l2 s->l2.text.length<100000->p.depth=y.length->y.length=gs.length->DocC σ b (l2.at b1::L) (y++E::junk) lf p w->
  (∀w (p':PS) O U,p'.base=p.base->p'.lineno=p.lineno->J O U->DocC σ b L O U p' w->R (hQ (.tuple #[])) w)->X (kE b) b1 w):
 qz [ec] op (n+1) (ctx cx s) nl (gs++top::junk) lf J:=by
 intro σ R L b pb p w e6 e5 e3 b4 e9 h f3;have d3:ec∈L:=e6 ec (.head _);have b3:LnR (CZ (ctx cx s) nl) (ctx cx s):=⟨CY (by omega),rfl,rfl⟩;have a6:(CZ (ctx cx s) nl).text.length<100000:=c9;generalize CZ (ctx cx s) nl=l at b3 a6⊢;have f4:=b6.len;have e4:gs++top::junk= [root]++(cf++junk):=by
  have:gs++top::junk=(gs++ [top])++junk:=by simp
  rw[this,<-V];simp
 rw[e4] at h;obtain⟨M,b9,c8,b8,hs,ht,b5,f0,h⟩:=h;refine ak.sound ?_;refine Sat.bx h λb1 w h=>?_
 repeat (first|refine aa ?_|refine h.tk λw h=>?_|refine⟨_,h.ldA,?_⟩|refine⟨_,_,_,h.ldA,?_⟩|refine h.stA 0 λw h=>?_|refine h.stA 1 λw h=>?_|refine h.stA 2 λw h=>?_|refine h.stA 3 λw h=>?_|refine h.stA 4 λw h=>?_|refine h.stA 5 λw h=>?_|refine h.stA 6 λw h=>?_|refine h.bx λb0 w h=>?_)
 let I:PS:= {p with depth:=0}
 have h:Sat σ _ (l.at b1::I.at b::(M++(b9++(aN ([root]++(cf++junk))++(b8++L))))):=h
 have hd:DocC σ b (l.at b1::L) ([root]++(cf++junk)) lf I _:=⟨M,b9,c8,b8,hs.of rfl rfl rfl,ht.of rfl rfl rfl,b5,f0,h.re⟩
 intro X b7;refine Hz b7 cx [root] cf I l _ b6 hd rfl ⟨by simp,by simp;omega⟩ b3 e0 (by show p.lineno<_;omega) λw g l2 k1 k2 k3 k4 h=>?_
 have d0:Sims (gs++ [top]) (root::g):=by
  rw[<-V];exact .cons (Bk.sim.rfl' (b5 root (by simp)).2.2.2) k1
 obtain⟨y,E,c4,c2,f2⟩:=y0 d0;have d2:=c2.len;have f6:gs.length=cf.length:=by have:=congrArg List.length V;simp at this;omega
 have f1: [root]++(g++junk)=y++E::junk:=by
  have: [root]++(g++junk)=(root::g)++junk:=by simp
  rw[this,c4];simp
 rw[f1] at h;have d1:l2.text.length<100000:=by rw[k4];exact a6
 have e7:FrX (n+1) cx g:=by have:=k2;rw[show I.lineno=n+1 from b4] at this;exact this
 refine e8 σ R L b b1 pb {I with depth:=(([root].length+cf.length:Nat):Int) - 1} w X y E root g l2 b7 d3 e5 e3 b4 e9 c2 f2 e7 c5 c4 k3 d1 (by show (([root].length+cf.length:Nat):Int) - 1=_;simp;omega) d2 h λw p' O U a1 a2 a3 h=>?_
 exact f3 w p' O U a1 a2 a3 h

def Bk.lk (f g:Bk):Prop:=f.ob.bd=g.ob.bd/\f.ob.s=g.ob.s/\f.own=g.own
theorem Bk.sim.lk {f y:Bk}(h:f.sim y):y.lk f:=by
 obtain⟨⟨m,g⟩,E,_⟩:=h;exact⟨by rw[g];rfl,by rw[g];rfl,E⟩
theorem Bk.like.lk {f g:Bk}(h:g.like f):g.lk f:=⟨h.1,h.2.1,h.2.2.2⟩
theorem Bk.lk.trans {f I k:Bk}(E:f.lk I)(y:I.lk k):f.lk k:=⟨E.1.trans y.1,E.2.1.trans y.2.1,E.2.2.trans y.2.2⟩
theorem Bk.like.root {f g:Bk}(h:g.like f)(hr:f.isRoot):g.isRoot:=by
 obtain⟨y,E,r2⟩:=hr;exact⟨y,h.1.trans E,h.2.2.2.trans r2⟩
theorem FrS.relast {cs:List CX}{fs:List Bk}(h:FrS cs fs): ∀(a:List Bk) (t t':Bk),fs=a++ [t]->t'.like t->FrS cs (a++ [t']):=by
 induction h with
 |nil=>intro a t t' e;simp at e
 | @q cs fs f hq h2 ih=>
  intro a t t' e E;cases a with
  |nil=>
   simp only[lT0,lU0] at e;obtain⟨rfl,rfl⟩:=e;cases h2
   exact .q (E.quote hq) .nil
  |cons x a=>
   simp only[lR0,lU0] at e;obtain⟨rfl,e⟩:=e;exact .q hq (ih a t t' e E)
 | @i cs fs f g lb w bul num it hf hg hw h2 ih=>
  intro a t t' e E;cases a with
  |nil=>simp at e
  |cons x a=>
   simp only[lR0,lU0] at e;obtain⟨rfl,e⟩:=e;cases a with
   |nil=>
    simp only[lT0,lU0] at e;obtain⟨rfl,rfl⟩:=e;cases h2
    exact .i hf (E.itemOf hg) hw .nil
   |cons I a=>
    simp only[lR0,lU0] at e;obtain⟨rfl,e⟩:=e;exact .i hf hg hw (ih a t t' e E)
theorem EJ {cx:List CX}{root top g:Bk}{cf gs:List Bk}(O:FrS cx cf)(hr:root.isRoot)(y:root::cf=gs++ [top])(U:g.like top): ∃E I,E::I=gs++ [g]/\E.isRoot/\FrS cx I:=by
 cases gs with
 |nil=>
  simp only[lT0,lU0] at y;obtain⟨rfl,rfl⟩:=y;exact⟨g,[],rfl,U.root hr,by cases O;exact .nil⟩
 |cons x gs=>
  simp only[lR0,lU0] at y;obtain⟨rfl,e⟩:=y;exact⟨root,gs++ [g],rfl,hr,O.relast gs top g e U⟩
theorem ctxQ: ∀(cs:List CX),cs.getLast? =some .q->(ctx cs []).all cO=false
 | [],h=>by simp at h
 | .q::cs,h=>rfl
 | .i w::cs,h=>by
  cases cs with
  |nil=>simp at h
  |cons c cs=>
   have g:=ctxQ (c::cs) (by rw[lW2] at h;exact h)
   have y:ctx (c::cs) []≠ []:=by intro h0;rw[h0] at g;cases g
   show (if ctx (c::cs) []= [] then [] else hN w 32++ctx (c::cs) []).all cO=false
   rw[if_neg y,wv];exact g
theorem AE: ∀ {cs:List CX},(∀c∈cs,c≠ .q)->ctx cs []= []
 | [],_=>rfl
 | .q::cs,h=>absurd rfl (h .q (.head _))
 | .i w::cs,h=>by
  show (if ctx cs []= [] then [] else hN w 32++ctx cs [])= []
  rw[if_pos (AE λc hc=>h c (.tail _ hc))]
theorem AD: ∀cx:List CX,∃g y,cx=g++y/\(∀c∈y,c≠ .q)/\(g= []\/g.getLast? =some .q)
 | []=>⟨[],[],rfl,(λc hc=>by cases hc),.inl rfl⟩
 |c::cx=>by
  obtain⟨g,y,rfl,I,E⟩:=AD cx;rcases E with rfl|E
  ·cases c with
   |q=>exact⟨[.q],y,rfl,I,.inr rfl⟩
   |i w=>
    refine⟨[],.i w::y,rfl,λc hc=>?_,.inl rfl⟩;rcases lW0.1 hc with rfl|hc
    ·intro h;cases h
    ·exact I c hc
  ·refine⟨c::g,y,rfl,I,.inr ?_⟩;cases g with
   |nil=>simp at E
   |cons d g=>rw[lW2];exact E
theorem nbQ {y:List CX}(h:y= []\/y.getLast? =some .q): ∀a c g,y=a++c::g->(ctx (c::g) []).all cO=false:=by
 intro a c g e;rcases h with rfl|h
 ·simp at e
 ·refine ctxQ _ ?_;rw[e,lF4] at h;cases E:(c::g).getLast? with
  |none=>simp at E
  |some x=>rw[E] at h;exact h
theorem F6 (g2:op.task=false){ec:ai}{n:Nat}{nl:UInt8}{cx:List CX}{root top:Bk}{cf gs junk:List Bk}{lf:Leaf}{pend:List IN}{J:List Bk->Leaf->Prop}(i3:FrS cx cf)(g0:root.isRoot)(c3:root::cf=gs++ [top])(i1:cx.length<1000)(g7:(ctx cx []).length<100000)(i8:Pd G op pend junk lf)(o2:junk.length<100000)(e6: ∀E∈gs++top::junk,E.D.length<=90000)(m6:(txF (gs++top::junk)).length<=90000)(m3: ∀I O V c9 c5 b9 b8 c8,Sims gs I->O.lk top->FrS cx c8->b8.isRoot->b8::c8=I++ [O]->O.D=top.D++c9->TDs G op c9 c5->Pd G op b9 V .none->c5++b9=pend->(V.length<=junk.length/\ ∀N,(∀E∈junk,E.D.length<=N)-> ∀E∈V,E.D.length<=N+1)->(txF (I++O::V)).length<=(txF (gs++top::junk)).length+1->
  (V= []\/ ∃f rest lb num it,∃bul:UInt8,V=f::rest/\f.isList lb bul.toNat num it/\ ∃x,pend= [x]/\x.h.char= [bul])->(∀wd,cx.getLast? =some (.i wd)->O.ob.e=top.ob.e)->J (I++O::V) .none):
 qz [ec] op (n+1) (ctx cx []) nl (gs++top::junk) lf J:=by
 intro σ R L b pb p w o4 h7 h3 o0 p3 h m4;obtain⟨b4,b5,rfl,f4,e9⟩:=AD cx;have h2:ctx (b4++b5) []=ctx b4 []:=by rw[oO,AE f4]
 rw[h2] at g7⊢;obtain⟨b3,y,rfl,f1,d3⟩:=i3.split;have f2:LnR (CZ (ctx b4 []) nl) (ctx b4 []):=⟨CY (by omega),rfl,rfl⟩;generalize CZ (ctx b4 []) nl=l at f2⊢;rw[lA0] at i1;have n2:=f1.len;have g1:=d3.len;have h6:gs++top::junk= [root]++(b3++(y++junk)):=by
  have:gs++top::junk=(gs++ [top])++junk:=by simp
  rw[this,<-c3];simp
 have h0:=h;rw[h6] at h;obtain⟨M,f6,g3,f5,hs,ht,c4,m2,h⟩:=h;refine ak.sound ?_;refine Sat.bx h λb1 w h=>?_
 repeat (first|refine aa ?_|refine h.tk λw h=>?_|refine⟨_,h.ldA,?_⟩|refine⟨_,_,_,h.ldA,?_⟩|refine h.stA 0 λw h=>?_|refine h.stA 1 λw h=>?_|refine h.stA 2 λw h=>?_|refine h.stA 3 λw h=>?_|refine h.stA 4 λw h=>?_|refine h.stA 5 λw h=>?_|refine h.stA 6 λw h=>?_|refine h.bx λb0 w h=>?_)
 let b6:PS:= {p with depth:=0}
 have h:Sat σ _ (l.at b1::b6.at b::(M++(f6++(aN ([root]++(b3++(y++junk)))++(f5++L))))):=h
 have hd:DocC σ b (l.at b1::L) ([root]++(b3++(y++junk))) lf b6 _:=⟨M,f6,g3,f5,hs.of rfl rfl rfl,ht.of rfl rfl rfl,c4,m2,h.re⟩
 intro X e5;refine Hz e5 b4 [root] b3 b6 l _ f1 hd rfl ⟨by simp,by simp;omega⟩ f2 (nbQ e9) (by show p.lineno<_;omega) λw W l2 k1 k2 k3 k4 h=>?_
 have n3:=k1.len;have h:DocC σ b (l2.at b1::L) (([root]++W)++(y++junk)) lf {b6 with depth:=(([root].length+b3.length:Nat):Int) - 1} w:=by simpa using h
 refine walkB e5 b5 ([root]++W) y _ l2 w d3 f4 h (by simp;omega) ⟨by simp,by simp;omega⟩ k3 λw l3 k5 h=>?_
 have g5:Sims (gs++ [top]) (root::(W++y)):=by
  rw[<-c3];exact .cons (Bk.sim.rfl' (c4 root (by simp)).2.2.2) (Sims.append k1 (Sims.refl λf e3=>(c4 f (by simp[e3])).2.2.2))
 obtain⟨I,O,e8,d0,d1⟩:=y0 g5;have g4: ∀wd,(b4++b5).getLast? =some (.i wd)->O=top:=by
  intro wd b7;have h8:b5≠ []:=by
   rintro rfl
   rw[lG0] at b7;rcases e9 with rfl|h
   ·simp at b7
   ·rw[h] at b7;cases b7
  have g6:y≠ []:=by
   rintro rfl
   have i4:=g1.1;rw[lM1] at i4;have:=lZ0.2 h8;omega
  cases hz:y.getLast? with
  |none=>exact absurd (List.getLast?_eq_none_iff.1 hz) g6
  |some z=>
   have a1:(root::(b3++y)).getLast? =some z:=by rw[<-lR0,lF4,hz];rfl
   have a2:(root::(W++y)).getLast? =some z:=by rw[<-lR0,lF4,hz];rfl
   rw[c3] at a1;rw[e8] at a2;rw[lF4] at a1 a2;simp at a1 a2;rw[a1,a2]
 have o3:=d0.len;have f3:gs.length=(b3++y).length:=by have:=congrArg List.length c3;simp at this⊢;omega
 have j0:([root]++W)++(y++junk)=I++O::junk:=by
  have:([root]++W)++(y++junk)=(root::(W++y))++junk:=by simp
  rw[this,e8];simp
 rw[j0] at h;have f0:=(Sims.append (d0:Sims gs I) (.cons d1 (Sims.refl (fs:=junk) λf e3=>by
  have:f∈ [root]++(b3++(y++junk)):=by simp[e3]
  exact(c4 f this).2.2.2))).mem
 have h9:FrS (b4++b5) (W++y):=k2.toS.append d3;have h5: ∀E∈I++O::junk,E.D.length<=90000:=by
  have h4: ∀ {e4 e7:List Bk},Sims e4 e7->(∀E∈e4,E.D.length<=90000)-> ∀E∈e7,E.D.length<=90000:=by
   intro e4 e7 i0
   induction i0 with
   |nil=>intro _ E U;cases U
   |cons k _ n0=>
    intro f7 E U;rcases lW0.1 U with rfl|U
    ·rw[k.2.2.1];exact f7 _ (.head _)
    ·exact n0 (λx e0=>f7 x (.tail _ e0)) E U
  intro E U;rcases lP0.1 U with U|U
  ·exact h4 d0 (λx e0=>e6 x (by simp[e0])) E U
  ·rcases lW0.1 U with rfl|U
   ·rw[d1.2.2.1];exact e6 top (by simp)
   ·exact e6 E (by simp[U])
 have i2:(txF (I++O::junk)).length<=90000:=by rw[f0.2];exact m6
 refine ES g2 e5 h7 i8 I O {b6 with depth:=((([root]++W).length+y.length:Nat):Int) - 1} l3 w h3 (by simp at f3;omega) h5 i2 h (by simp at f3⊢;omega) k5 λw p' d2 c9 V c5 b9 a1 a2 a3 a4 a5 l5 m5 a8 a9 a10 h=>?_
 obtain⟨b8,c8,n1,r2,k0⟩:=EJ h9 g0 e8 a3;refine m4 w p' _ _ a1 a2 (m3 I d2 V c9 c5 b9 b8 c8 d0 (a3.lk.trans d1.lk) k0 r2 n1 (by rw[a4,d1.2.2.1]) a5 l5 m5 a8 ?_ a10 λwd j1=>by rw[a3.2.2.1,g4 wd j1]) h;have t1:txF (I++d2::V)=txF I++txF (d2::V):=bF _ _
 have m1:txF (I++O::junk)=txF I++txF (O::junk):=bF _ _
 rw[<-f0.2,t1,m1];simp only[lA0];omega

theorem FrX.relast {m:Nat}{cs:List CX}{fs:List Bk}(h:FrX m cs fs): ∀(a:List Bk) (t t':Bk),fs=a++ [t]->t'.like t->FrX m cs (a++ [t']):=by
 induction h with
 |nil=>intro a t t' e;simp at e
 | @q cs fs f hq he h2 ih=>
  intro a t t' e E;cases a with
  |nil=>
   simp only[lT0,lU0] at e;obtain⟨rfl,rfl⟩:=e;cases h2
   exact .q (E.quote hq) (E.2.2.1.trans he) .nil
  |cons x a=>
   simp only[lR0,lU0] at e;obtain⟨rfl,e⟩:=e;exact .q hq he (ih a t t' e E)
 | @i cs fs f g lb w bul num it hf hg hw he h2 ih=>
  intro a t t' e E;cases a with
  |nil=>simp at e
  |cons x a=>
   simp only[lR0,lU0] at e;obtain⟨rfl,e⟩:=e;cases a with
   |nil=>
    simp only[lT0,lU0] at e;obtain⟨rfl,rfl⟩:=e;cases h2
    exact .i hf (E.itemOf hg) hw (E.2.2.1.trans he) .nil
   |cons I a=>
    simp only[lR0,lU0] at e;obtain⟨rfl,e⟩:=e;exact .i hf hg hw he (ih a t t' e E)
theorem j6 {m:Nat}{cx:List CX}{root top g:Bk}{cf gs:List Bk}(O:FrX m cx cf)(hr:root.isRoot)(y:root::cf=gs++ [top])(U:g.like top): ∃E I,E::I=gs++ [g]/\E.isRoot/\FrX m cx I:=by
 cases gs with
 |nil=>
  simp only[lT0,lU0] at y;obtain⟨rfl,rfl⟩:=y;exact⟨g,[],rfl,U.root hr,by cases O;exact .nil⟩
 |cons x gs=>
  simp only[lR0,lU0] at y;obtain⟨rfl,e⟩:=y;exact⟨root,gs++ [g],rfl,hr,O.relast gs top g e U⟩
theorem sT {cx:List CX}{root top:Bk}{cf gs:List Bk}(O:FrS cx cf)(hr:root.isRoot)(E:root::cf=gs++ [top]):top.box_:=by
 have I: ∀ {cs:List CX} {fs:List Bk},FrS cs fs-> ∀a t,fs=a++ [t]->t.box_:=by
  intro cs fs h
  induction h with
  |nil=>intro a t e;simp at e
  | @q cs fs f hq h2 ih=>
   intro a t e;cases a with
   |nil=>simp only[lT0,lU0] at e;obtain⟨rfl,_⟩:=e;exact hq.box_
   |cons x a=>simp only[lR0,lU0] at e;exact ih a t e.2
  | @i cs fs f g lb w bul num it hf hg hw h2 ih=>
   intro a t e;cases a with
   |nil=>simp at e
   |cons x a=>
    simp only[lR0,lU0] at e;obtain⟨_,e⟩:=e;cases a with
    |nil=>simp only[lT0,lU0] at e;obtain⟨rfl,_⟩:=e;exact hg.box_
    |cons W a=>simp only[lR0,lU0] at e;exact ih a t e.2
 cases gs with
 |nil=>
  simp only[lT0,lU0] at E;obtain⟨rfl,_⟩:=E;obtain⟨V,U,_⟩:=hr;exact⟨_,_,U,by decide,by decide⟩
 |cons x gs=>
  simp only[lR0,lU0] at E;exact I O gs top E.2
def BD (n:Nat)(fs:List Bk):Prop:=(∀f∈fs,f.D.length<=3*n)/\(txF fs).length<=3*n
def BDi (n:Nat)(gs:List Bk)(top:Bk)(junk:List Bk):Prop:=(∀f∈gs,f.D.length<=3*n+1)/\(∀f∈top::junk,f.D.length<=3*n)/\((txF (gs++top::junk)).length<=3*n\/junk= []/\(txF (gs++top::junk)).length<=3*n+1)
theorem BDi.all {n:Nat}{gs junk:List Bk}{top:Bk}(h:BDi n gs top junk):(∀f∈gs++top::junk,f.D.length<=3*n+1)/\(txF (gs++top::junk)).length<=3*n+1:=by
 refine⟨λf g=>?_,by rcases h.2.2 with h|h<;>omega⟩;rcases lP0.1 g with g|g
 ·exact h.1 f g
 ·have:=h.2.1 f g;omega
theorem BDi.le {n:Nat}{gs junk:List Bk}{top:Bk}(h:BDi n gs top junk)(y:n<=20000):(∀f∈gs++top::junk,f.D.length<=90000)/\(txF (gs++top::junk)).length<=90000:=⟨λf g=>by have:=h.all.1 f g;omega,by have:=h.all.2;omega⟩
theorem BD.i {n:Nat}{gs junk:List Bk}{top:Bk}(h:BD n (gs++top::junk)):BDi n gs top junk:=⟨λf g=>by have:=h.1 f (by simp[g]);omega,λf g=>h.1 f (lB0 _ g),.inl h.2⟩
def St (G:List UInt8->List Inl)(op:Opt)(cx:List CX)(d n:Nat)(gs0:List Bk)(top0:Bk)(xs:List IN)(fs:List Bk)(lf:Leaf):Prop:=
 ∃root cf gs top junk y g pend,fs=gs++top::junk/\root.isRoot/\root::cf=gs++ [top]/\FrX n cx cf/\Sims gs0 gs/\top.lk top0/\top.D=top0.D++y/\TDs G op y g/\Pd G op pend junk lf/\g++pend=xs/\junk.length<=2*d/\BD n fs
def Ed (c:UInt8)(junk:List Bk):Prop:=junk= []\/ ∃g y E c0 num0 I,junk=g::y/\g.isList E (UInt8.toNat c0) num0 I/\c0≠c
def BlkP (G:List UInt8->List Inl)(op:Opt)(ec:ai)(ls:List (List UInt8))(x:Nat->IN)(d:Nat)(bc:Option UInt8):Prop:=
 ∀(cx:List CX) (root top:Bk) (cf gs junk:List Bk) (pend0:List IN) (rem:List (List UInt8)) (n:Nat) (Q:List DB->Prop),cx.length+d<=400->n+ls.length<=20000->(∀s∈ls,(ctx cx s).length<100000)->root.isRoot->root::cf=gs++ [top]->FrX (n+1) cx cf->Pd G op pend0 junk .none->junk.length<=900->(∀c,bc=some c->Ed c junk)->BDi n gs top junk->
  (∀fs lf,St G op cx d (n+ls.length) gs top (pend0++ [x (n+1)]) fs lf->OkL ec op Q rem (n+ls.length) fs lf)->
  ∀(σ:Out) (R:Ending->World->Prop) (L:List ai) (b b1 pb:Nat) (p:PS) (w:World) (l:Ln) (E:OA->Nat->WP),Runs R E b b1->ec∈L->op.at pb∈L->p.pz=kE pb->p.lineno=n+1->p.depth=gs.length->LnR l (ls.headD [])->l.text.length<100000->DocC σ b (l.at b1::L) (gs++top::junk) .none p w->
   (∀w (p':PS) y g,p'.base=p.base->p'.lineno=p.lineno->OkL ec op Q (ls.tail.map (ctx cx)++rem) (n+1) y g->DocC σ b L y g p' w->R (hQ (.tuple #[])) w)->ak.bl102 R E (kE b) b1 w
theorem BD.le {n:Nat}{fs:List Bk}(h:BD n fs)(y:n<=20000):(∀f∈fs,f.D.length<=90000)/\(txF fs).length<=90000:=⟨λf g=>by have:=h.1 f g;omega,by have:=h.2;omega⟩
theorem St.done {cx:List CX}{d n b:Nat}{root top y:Bk}{cf gs junk:List Bk}{pend0:List IN}{x:IN}{I:List DB}{E:DB}{p:PS}(b6:FrX (n+1) cx cf)(hr:root.isRoot)(b4:root::cf=gs++ [top])(W:y.like top)(U:y.D=top.D++(I++ [E]))(V:TDs G op I pend0)(c3:pend0.length<=1)(b7:TD G op E x)(c4:(cj I).length<=(txF junk).length+1)(c8:E.txs.length<=1)(O:BDi n gs top junk)(h:DocC σ b L (gs++ [y]) .none p w):St G op cx d (n+1) gs top (pend0++ [x]) (gs++ [y]) .none:=by
 obtain⟨_,_,_,_,_,_,b5,_⟩:=h;obtain⟨a7,b3,c2,r2,b8⟩:=j6 b6 hr b4 W;have c5:=V.len;refine⟨a7,b3,gs,y,[],I++ [E],pend0++ [x],[],rfl,r2,c2,b8,Sims.refl λf g=>(b5 f (by simp[g])).2.2.2,W.lk,U,V.append (.cons b7 .nil),.none,by simp,by simp,λf g=>?_,?_⟩
 ·rcases lP0.1 g with g|g
  ·have:=O.all.1 f (by simp[g]);omega
  ·obtain rfl:=lN0.1 g;have:=O.all.1 top (by simp);rw[U];simp;omega
 ·have a6:=O.all.2;have b9:txF (gs++top::junk)=txF gs++(cj top.D++txF junk):=by simp[txF]
  have c1:txF (gs++ [y])=txF gs++(cj top.D++(cj I++E.txs)):=by rw[bF,dO,U,di,di];simp[cj]
  rw[b9] at a6;rw[c1];simp only[lA0] at a6⊢;omega
theorem LnR.noSkip {l:Ln}{s:List UInt8}(h:LnR l s)(hs:s.head?.map cO≠some true):l.skip=l:=by
 have E:=h.ok.i;have g:=congrArg List.length h.tx;rw[lJ1] at g;have y:s.dropWhile cO=s:=by
  cases s with
  |nil=>rfl
  |cons c s=>
   rw[lL2];intro h0;exact hs (by simp[h0])
 unfold Ln.skip;rw[h.tx,y,<-g,<-h.sp];have:l.text.length - (l.text.length - l.i)=l.i:=by omega
 rw[this]
theorem LnR.hr3 {l:Ln}(h:LnR l [42,42,42]):l.isHR=true:=by
 have U: ∀e,l.lead 3 e=l:=h.has.lead (by decide) 2
 have O:=congrArg List.length h.tx;rw[lJ1] at O;simp only[lF0,lM1] at O;obtain⟨m,a6⟩: ∃m,l.text.length+1=m+4:=⟨l.text.length - 3,by omega⟩
 unfold Ln.isHR;simp only[U,h.has.peek];rw[if_pos (by decide),a6];have g:LnR {l with i:=l.i+1} [42,42]:=LnR.skip (a:= [42]) h
 have E:LnR {l with i:=l.i+1+1} [42]:=LnR.skip (a:= [42]) g
 have y:LnR {l with i:=l.i+1+1+1} []:=LnR.skip (a:= [42]) E
 have b4:l.trimC 42=some {l with i:=l.i+1}:=by rw[h.has.trimC,if_pos rfl]
 have V:({l with i:=l.i+1}:Ln).trimC 42=some {l with i:=l.i+1+1}:=by rw[g.has.trimC,if_pos rfl]
 have b7:({l with i:=l.i+1+1}:Ln).trimC 42=some {l with i:=l.i+1+1+1}:=by rw[E.has.trimC,if_pos rfl]
 have b6:({l with i:=l.i+1+1+1}:Ln).trimC 42=none:=by
  have I:=y.lenNil;have b5:l.text[l.i+1+1+1]? =none:=lV1 I;unfold Ln.trimC;rw[if_neg (by show ¬ 0<l.sp;rw[h.sp];omega),if_neg (by show ¬ l.text[l.i+1+1+1]? =some 42;rw[b5];simp)]
 have a7:=g.noSkip (by decide);have b3:=E.noSkip (by decide);have W:=y.noSkip (by decide);simp only[Ln.hrGo,b4,a7,V,b3,b7,W,b6];have I:=y.lenNil;simp only[lN1,decide_eq_true_eq];exact⟨by omega,I⟩
theorem Ic (W:op.task=false){ec:ai}{d:Nat}:BlkP G op ec [[42,42,42]] (λn=> .mk {kind:=9,mark:= [42,42,42],s:=n,e:=n} []) d none:=by
 intro cx root top cf gs junk pend0 rem n Q d3 e3 c5 hr y E V d1 e2 I b3 σ R L b b1 pb p w l e4 d0 d2 b7 b5 b6 hd g c9 h c4;have g:LnR l [42,42,42]:=g;have e0:=E.len;have e1:gs.length=cf.length:=by have:=congrArg List.length y;simp at this;omega
 have O:=g.has;have U: ∀e,l.lead 3 e=l:=O.lead (by decide) 2
 have c3:l.quote=none:=by unfold Ln.quote;rw[U,O.trimC,if_neg (by decide)];rfl
 have b8:l.heading=none:=by unfold Ln.heading;rw[U,O.trimC,if_neg (by decide)]
 have a6:l.str= [42,42,42]:=by unfold Ln.str;rw[g.sp,g.tx];rfl
 have b4:l.isHR=true:=g.hr3;have a7:=sT E.toS hr y;refine GH W V h hd (by omega) a7.np g.ok c3 b8 b4 (I.le (by omega)).1 (I.le (by omega)).2 b5 b7 (by omega) λw p' c8 e5 nb c1 c2 k1 k2 k3 k4 h=>?_
 rw[a6,b6] at k2;have b9:=St.done (G:=G) (op:=op) (d:=d) E hr y k1 k2 k3 V.len (td_hr (by decide) (by omega)) k4 (by simp[Dq]) I h
 exact c4 w p' _ _ c1 c2 (b3 _ _ b9) h

structure TxL (s:List UInt8):Prop where
 cont: ∀l,LnR l s->l.cont/\l.rest=s
 nb:s.all cO=false
theorem Fp (V:op.task=false)(W:op.ids=false){ec:ai}{d lv:Nat}{m:List UInt8}{g:UInt8}(b8:1<=lv/\lv<=6)(a6:cO g=false/\g≠35)(b3:m.length<100000)(c3:jW none [] op (m++ [g]) (G (m++ [g])))(c2:mu (G (m++ [g]))):
 BlkP G op ec [hN lv 35++32::(m++ [g])] (λn=> .mk {kind:=5,num:=(lv:Nat),s:=n,e:=n} (eK (G (m++ [g])))) d none:=by
 intro cx root top cf gs junk pend0 rem n Q e7 f1 d1 hr I O U e5 f0 E a7 σ R L b b1 pb p w l f3 e0 e6 b6 b4 b5 hd y d3 h c9;have y:LnR l (hN lv 35++32::(m++ [g])):=y
 have e9:=O.len;have e8:gs.length=cf.length:=by have:=congrArg List.length I;simp at this;omega
 obtain⟨c5,c8,c4,f2⟩:=y.heading b8;refine CE V W U h hd (by omega) y.ok c4 c5 c8 a6 b3 (E.le (by omega)).1 (E.le (by omega)).2 b4 b6 (by omega) λw p' d2 f4 nb t b9 c1 k1 k2 k3 k4 h=>?_
 rw[b5] at k2;have b7:=St.done (G:=G) (op:=op) (d:=d) O hr I k1 k2 k3 U.len (Gr (by omega) (by omega) c2 c3) k4 (by simp[zw]) E h
 exact c9 w p' _ _ b9 c1 (a7 _ _ b7) h
theorem k2nb {b b1:Nat}{fs:List Bk}{lf:Leaf}{p:PS}{l:Ln}(h:DocC σ b (l.at b1::L) fs lf p w)(U:l.ok)(hb:l.blank=false)(O: ∀w,DocC σ b (l.at b1::L) fs lf p w->ak.bl102 R (ak.l102 R) (kE b) b1 w):
 ak.k2 R (kE b) b1 w:=by
 obtain⟨M,g,E,y,hs,ht,I,V,h⟩:=h;unfold ak.k2;have h:Sat σ w (l.at b1::p.at b::(M++(g++(aN fs++(y++L))))):=h.re
 refine dH h (.head _) U λw h=>⟨_,rfl,?_⟩
 rw[hb];exact af rfl (O w ⟨M,g,E,y,hs,ht,I,V,h.re⟩)
theorem FrX.lastE {m:Nat}{cs:List CX}{fs:List Bk}(h:FrX m cs fs): ∀(a:List Bk) (t:Bk),fs=a++ [t]->t.ob.e=m:=by
 induction h with
 |nil=>intro a t e;simp at e
 | @q cs fs f hq he h2 ih=>
  intro a t e;cases a with
  |nil=>simp only[lT0,lU0] at e;obtain⟨rfl,_⟩:=e;exact he
  |cons x a=>simp only[lR0,lU0] at e;exact ih a t e.2
 | @i cs fs f g lb w bul num it hf hg hw he h2 ih=>
  intro a t e;cases a with
  |nil=>simp at e
  |cons x a=>
   simp only[lR0,lU0] at e;obtain⟨_,e⟩:=e;cases a with
   |nil=>simp only[lT0,lU0] at e;obtain⟨rfl,_⟩:=e;exact he
   |cons E a=>simp only[lR0,lU0] at e;exact ih a t e.2
theorem Bk.setE_same {t:Bk}{m:Nat}(h:t.ob.e=m):t.setE m=t:=by
 cases t with
 |mk ob own D IM=>
  cases ob
  subst h;rfl
theorem Bk.isRoot.setE {f:Bk}{m:Nat}(h:f.isRoot):(f.setE m).isRoot:=h
theorem GE {m:Nat}{cx:List CX}{root top:Bk}{cf gs:List Bk}(y:FrX m cx cf)(hr:root.isRoot)(g:root::cf=gs++ [top]): ∃E I,E::I=gs++ [top.setE m]/\E.isRoot/\FrX m cx I:=by
 cases gs with
 |nil=>
  simp only[lT0,lU0] at g;obtain⟨rfl,rfl⟩:=g;exact⟨root.setE m,[],rfl,hr.setE,y⟩
 |cons x gs=>
  have O:=g;simp only[lR0,lU0] at g;obtain⟨rfl,e⟩:=g;rw[Bk.setE_same (y.lastE gs top e)];exact⟨root,cf,O,hr,y⟩
theorem FO (d0:op.table=false){ec:ai}{Q:List DB->Prop}{rem:List (List UInt8)}{cx:List CX}{s0:Nat}(d3:cx.length<1000): ∀(rest E:List (List UInt8)) (n:Nat) (root top:Bk) (cf gs:List Bk),FrX n cx cf->root.isRoot->root::cf=gs++ [top]->(∀f∈gs++ [top],f.ob.e<1000000000)->(∀s∈rest,TxL s/\(ctx cx s).length<100000)->E.length+rest.length<100000->n+rest.length<1000000->
 (∀y g V O,Sims gs y->top.sim g->V.isRoot->V::O=y++ [g]->FrX (n+rest.length) cx O->(∀f∈y++ [g],f.ob.e<1000000000)->OkL ec op Q rem (n+rest.length) (y++ [g]) (pv s0 (E++rest)))->OkL ec op Q (rest.map (ctx cx)++rem) n (gs++ [top]) (pv s0 E):=by
 intro rest
 induction rest with
 |nil=>
  intro E n root top cf gs b8 hr b5 U a7 c3 c2 b3;have:=b3 gs top root cf (Sims.refl λf b9=>U f (by simp[b9])) (Bk.sim.rfl' (U top (by simp))) hr b5 b8 U
  simpa using this
 |cons s rest f7=>
  intro E n root top cf gs b8 hr b5 U a7 c3 c2 b3;simp only[lF0] at c3 c2;obtain⟨hs,e9⟩:=a7 s (.head _)
  show∀nl,qz [ec] op (n+1) (ctx cx s) nl (gs++top:: []) (pv s0 E) (OkL ec op Q (rest.map (ctx cx)++rem) (n+1))
  intro nl;have e1: ∀a c b4,cx=a++c::b4->(ctx (c::b4) s).all cO=false:=by
   have e5: ∀cs:List CX,(ctx cs s).all cO=false:=by
    intro cs
    induction cs with
    |nil=>exact hs.nb
    |cons c cs b6=>
     cases c with
     |q=>rfl
     |i w=>
      have f0:ctx cs s≠ []:=by intro h0;rw[h0] at b6;cases b6
      show (if ctx cs s= [] then [] else hN w 32++ctx cs s).all cO=false
      rw[if_neg f0,wv];exact b6
   intro a c b4 _;exact e5 _
  refine Bf b8.toS hr b5 e1 d3 e9 λσ R L b b1 pb p w X y g V O l2 f2 g5 e6 e2 e3 h1 f5 g0 b7 c1 W I g3 hd g4 h g1=>?_
  obtain⟨c4,c9⟩:=hs.cont l2 I;have e7:l2.blank=false:=by unfold Ln.blank;rw[I.tx];exact hs.nb
  have g6:=b7.len;have g7:y.length=O.length:=by have:=congrArg List.length W;simp at this;omega
  refine Gx f2 h (by simp;omega) ⟨by simp,by simp;omega⟩ I.ok λw h=>?_
  refine k2nb h I.ok e7 λw h=>?_
  refine contS h hd (by omega) (sT b7.toS c1 W) c4 (by omega) e2 e6 d0 (by omega) λw h=>?_
  rw[c9,e3] at h;obtain⟨c5,e8,g2,r2,f4⟩:=GE b7 c1 W;have d2: ∀f∈y++ [g.setE (n+1)],f.ob.e<1000000000:=by
   obtain⟨_,_,_,_,_,_,f1,_⟩:=h;exact λf b9=>(f1 f b9).2.2.2
  refine g1 w p _ _ rfl rfl (f7 (E++ [s]) (n+1) c5 (g.setE (n+1)) e8 y f4 r2 g2 d2 (λx f3=>a7 x (.tail _ f3)) (by simp;omega) (by omega) λe0 d1 c8 e4 a1 a2 a3 a4 a5 f6=>?_) h;have:=b3 e0 d1 c8 e4 (f5.trans a1) ((g0.trans (g.setE_sim (by omega))).trans a2) a3 a4 (by
   have e:n+(s::rest).length=n+1+rest.length:=by simp;omega
   rw[e];exact a5) f6
  have e:n+(s::rest).length=n+1+rest.length:=by simp;omega
  rw[e] at this;rw[lD0];exact this

theorem Cz {k:Nat}{I O:List Bk}(h:Sims I O):(∀y∈I,y.D.length<=k)-> ∀y∈O,y.D.length<=k:=by
 induction h with
 |nil=>intro _ y E;cases E
 |cons V _ a6=>
  intro U y E;rcases lW0.1 E with rfl|E
  ·rw[V.2.2.1];exact U _ (.head _)
  ·exact a6 (λx W=>U x (.tail _ W)) y E
theorem St.fin {cx:List CX}{d n V:Nat}{I top g:Bk}{O gs y junk:List Bk}{U pend:List IN}{ds2:List DB}{lf:Leaf}(a6:BDi n gs top junk)(b6:g.lk top)(a7:g.D=top.D++ds2)(b5:TDs G op ds2 U)(c3:ds2.length<=2)(c4:(cj ds2).length<=(txF junk).length+2)(W:Sims gs y)(hr3:I.isRoot)(b4:I::O=y++ [g])(b7:FrX V cx O)(c1:Pd G op pend [] lf)(c5:n+1<=V):
 St G op cx d V gs top (U++pend) (y++ [g]) lf:=by
 refine⟨I,O,y,g,[],ds2,U,pend,rfl,hr3,b4,b7,W,b6,a7,b5,c1,rfl,by simp,λf E=>?_,?_⟩
 ·rcases lP0.1 E with E|E
  ·have:=Cz (k:=3*n+1) W (λx b8=>a6.all.1 x (by simp[b8])) f E;omega
  ·obtain rfl:=lN0.1 E;have:=a6.all.1 top (by simp);rw[a7];simp;omega
 ·have b3:=a6.all.2;have b9:txF (gs++top::junk)=txF gs++(cj top.D++txF junk):=by simp[txF]
  have c2:txF (y++ [g])=txF gs++(cj top.D++cj ds2):=by rw[bF,dO,a7,di,W.mem.2]
  rw[b9] at b3;rw[c2];simp only[lA0] at b3⊢;omega
theorem Fn (b6:op.task=false)(b8:op.table=false){ec:ai}{d:Nat}{ls:List (List UInt8)}(c9:ls≠ [])(V: ∀s∈ls,TxL s)(c5:yC G op ls):
 BlkP G op ec ls (λn=> .mk {kind:=6,s:=n,e:=n+ls.length - 1} (eK (G (bl [10] ls)))) d none:=by
 intro cx root top cf gs junk pend0 rem n Q f1 d1 b7 hr g y a7 e8 f7 I c1 σ R L b b1 pb p w l g0 e7 f0 c4 c2 c3 hd E e6 h e2;obtain⟨s,rest,rfl⟩:=lD1 c9;have E:LnR l s:=E;obtain⟨b3,b5⟩:=(V s (.head _)).cont l E;have f4:=y.len;have f5:gs.length=cf.length:=by have:=congrArg List.length g;simp at this;omega
 simp only[lF0] at d1;refine xg b6 a7 h hd (by omega) (sT y.toS hr g) b3 (I.le (by omega)).1 (I.le (by omega)).2 c2 c4 (by omega) λw p' O g2 d2 d3 k1 k2 k3 k4 h=>?_
 rw[b5,c3] at h;obtain⟨b4,c8,e3,r2,e0⟩:=j6 y hr g k1;have b9: ∀f∈gs++ [O],f.ob.e<1000000000:=by
  obtain⟨_,_,_,_,_,_,d0,_⟩:=h;exact λf e1=>(d0 f e1).2.2.2
 have f2:=k3.len;have f6:=a7.len;refine e2 w p' _ _ d2 d3 (FO b8 (by omega) rest [s] (n+1) b4 O c8 gs e0 r2 e3 b9 (λx W=>⟨V x (.tail _ W),b7 x (.tail _ W)⟩) (by simp;omega) (by omega) λe9 e5 e4 f3 a1 a2 a3 a4 a5 g1=>?_) h;have U:=St.fin (G:=G) (op:=op) (d:=d) (pend:= [.mk {kind:=6,s:=n+1,e:=n+1+(s::rest).length - 1} (eK (G (bl [10] (s::rest))))]) I (a2.lk.trans k1.lk) (by rw[a2.2.2.1,k2]) k3 (by omega) (by omega) a1 a3 a4 a5 (.para c5) (by omega)
 have e:n+1+rest.length=n+(s::rest).length:=by simp;omega
 rw[e] at U⊢;exact c1 _ _ U
theorem CP {s:List UInt8}(hs:s.all cO=false): ∀cs:List CX,(ctx cs s).all cO=false:=by
 intro cs
 induction cs with
 |nil=>exact hs
 |cons c cs g=>
  cases c with
  |q=>rfl
  |i w=>
   have y:ctx cs s≠ []:=by intro h0;rw[h0] at g;cases g
   show (if ctx cs s= [] then [] else hN w 32++ctx cs s).all cO=false
   rw[if_neg y,wv];exact g
theorem BH (c2:op.task=false)(e9:op.table=false){ec:ai}{d:Nat}{c:UInt8}{ls:List (List UInt8)}(hc:c=61\/c=45)(g3:ls≠ [])(e1: ∀s∈ls,TxL s)(y:yC G op ls):
 BlkP G op ec (ls++ [[c,c,c]]) (λn=> .mk {kind:=5,num:=(BV c:Nat),s:=n,e:=n+ls.length} (eK (G (bl [10] ls)))) d none:=by
 intro cx root top cf gs junk pend0 rem n Q m2 g4 c5 hr a7 b8 d3 l5 n1 O I σ R L b b1 pb p w l n2 j0 g2 b6 b3 b5 hd b9 f1 h U;obtain⟨s,rest,rfl⟩:=lD1 g3;have b9:LnR l s:=b9;obtain⟨e4,e6⟩:=(e1 s (.head _)).cont l b9;have k0:=b8.len;have m4:gs.length=cf.length:=by have:=congrArg List.length a7;simp at this;omega
 have en:n+((s::rest)++ [[c,c,c]]).length=n+1+rest.length+1:=by simp;omega
 have g7:n+1+(s::rest).length=n+1+rest.length+1:=by simp;omega
 have I: ∀fs lf,St G op cx d (n+((s::rest)++ [[c,c,c]]).length) gs top (pend0++ [.mk {kind:=5,num:=(BV c:Nat),s:=n+1,e:=n+1+(s::rest).length} (eK (G (bl [10] (s::rest))))]) fs lf->OkL ec op Q rem (n+((s::rest)++ [[c,c,c]]).length) fs lf:=I
 rw[en,g7] at I;rw[en] at g4;refine xg c2 d3 h hd (by omega) (sT b8.toS hr a7) e4 (O.le (by omega)).1 (O.le (by omega)).2 b3 b6 (by omega) λw p' c3 h5 g5 h6 k1 k2 k3 k4 h=>?_
 rw[e6,b5] at h;obtain⟨e5,f7,h7,r2,h3⟩:=j6 b8 hr a7 k1;have g0: ∀f∈gs++ [c3],f.ob.e<1000000000:=by
  obtain⟨_,_,_,_,_,_,f4,_⟩:=h;exact λf g6=>(f4 f g6).2.2.2
 have m3:=k3.len;have m5:=d3.len;have f0:cO c=false:=by rcases hc with rfl|rfl<;>decide
 have c1:([c,c,c]:List UInt8).all cO=false:=by simp[f0]
 have e7:((s::rest)++ [[c,c,c]]).tail.map (ctx cx)++rem=rest.map (ctx cx)++(ctx cx [c,c,c]::rem):=by simp
 rw[e7] at U;refine U w p' _ _ g5 h6 (FO e9 (by omega) rest [s] (n+1) e5 c3 f7 gs h3 r2 h7 g0 (λx d2=>⟨e1 x (.tail _ d2),c5 x (by simp[d2])⟩) (by simp;omega) (by omega) λf2 e8 h8 j1 a1 a2 a3 a4 a5 o2=>?_) h
 show∀nl,qz [ec] op (n+1+rest.length+1) (ctx cx [c,c,c]) nl (f2++e8:: []) (pv (n+1) ([s]++rest)) (OkL ec op Q rem (n+1+rest.length+1))
 intro nl;refine Bf a5.toS a3 a4 (λa x i3 _=>CP c1 _) (by omega) (c5 _ (by simp)) λσ R L b b1 pb p w X b4 c4 i0 f6 l2 h1 g2 b6 b3 b5 m6 e3 V b7 d0 W g f1 hd m1 h U=>?_
 have f3:l2.blank=false:=by unfold Ln.blank;rw[g.tx];exact c1
 have i1:=b7.len;have i4:b4.length=f6.length:=by have:=congrArg List.length W;simp at this;omega
 have c8:(∀f∈b4++ [c4],f.D.length<=90000)/\(txF (b4++ [c4])).length<=90000:=by
  have E:=St.fin (G:=G) (op:=op) (d:=d) (pend:= [.mk {kind:=6,s:=n+1,e:=n+1+(s::rest).length - 1} (eK (G (bl [10] (s::rest))))]) O (V.lk.trans (a2.lk.trans k1.lk)) (by rw[V.2.2.1,a2.2.2.1,k2]) k3 (by omega) (by omega) (a1.trans e3) d0 W b7 (.para y) (by omega)
  obtain⟨_,_,o3,o4,n3,_,_,_,o0,_,_,_,_,_,_,_,_,_,_,hb⟩:=E;exact hb.le (by omega)
 refine Gx h1 h (by simp;omega) ⟨by simp,by simp;omega⟩ g.ok λw h=>?_
 refine k2nb h g.ok f3 λw h=>?_
 refine GA (n:=3) c2 h hd (by omega) hc (by decide) g y c8.1 c8.2 b3 b6 (by omega) λw p' i2 hb t f5 g1 d1 c9 i8 h=>?_
 obtain⟨h9,n0,t1,h4,h2⟩:=j6 b7 d0 W d1;rw[b5] at c9;have E:=St.fin (G:=G) (op:=op) (d:=d) (pend:= []) (ds2:=h5++ [rR hb t (n+1) (n+1+rest.length+1) (n+1) (n+1+([s]++rest).length - 1) (BV c) (bl [10] ([s]++rest))]) O (d1.lk.trans (V.lk.trans (a2.lk.trans k1.lk))) (by rw[c9,V.2.2.1,a2.2.2.1,k2,lD0]) (k3.append (.cons (Co (by omega) (by omega) y.tame y.inl) .nil)) (by simp;omega) (by rw[di];simp[cj,rR];simp[cj] at k4;omega) (a1.trans e3) h4 t1 h2 .none (by omega)
 rw[lG0] at E;exact U w p' _ _ f5 g1 (I _ _ E) h
end Go.Proofs.YtendaipfdnhnaaaGreatDoor
