/- Part 5 of the proof of the law FnPlaced: for every input the law returns true, the inputs read as they did, and memory that was there is as it was; under the conditions of the given row alone. -/
import Derived.Laws.IdiomStrings
import Derived.Test.YtendaipfdnhnaaaGreatDoorA4
set_option linter.all false
open Go.IntKind(i64)
open ByteArray renaming mk→hP
open List renaming replicate→hN
namespace Go.Proofs.YtendaipfdnhnaaaGreatDoor
open Go.Proofs Go.IntWalk Go.RowKit
set_option maxRecDepth 20000
variable {σ:Out} {w:World} {L L':List ai} {R:Ending->World->Prop} {G:List UInt8->List Inl} {op:Opt}

theorem AE {c:UInt8}(h:wB c=true):cL c=false/\kX c=false:=by
 have:=lD2.1 (show (List.range 256).all (λn=> !(wB (UInt8.ofNat n))||(!cL (UInt8.ofNat n) && !kX (UInt8.ofNat n)))=true by kernel_rfl) c.toNat (lX2.2 c.toNat_lt);rw[lY3,h] at this
 simpa using this
theorem F0 {c:UInt8}(h:wB c=true)(o:Opt):jR o c= .nil:=by
 have g:c≠92/\c≠96/\c≠60/\c≠91/\c≠33/\c≠95/\c≠42/\c≠46/\c≠45/\c≠34/\c≠39/\c≠126/\c≠10/\c≠38/\c≠58:=by
  refine⟨?_,?_,?_,?_,?_,?_,?_,?_,?_,?_,?_,?_,?_,?_,?_⟩<;>(rintro rfl;revert h;decide)
 simp[jR,g]
theorem okT.last: ∀ {l:List Tk} {n:Nat},okT n l->l≠ []-> ∃m d,tkB l=m++ [d]/\cL d=false/\d≠35
 | [],n,_,h=>absurd rfl h
 |t::r,n,h,_=>by
  by_cases hr:r= []
  ·subst hr;have y: ∀ {s:List UInt8},WdP s-> ∃m d,s=m++ [d]/\cL d=false/\d≠35:=by
    intro s hs;rcases lE2 s with g|⟨m,d,g⟩
    ·exact absurd g hs.ne
    ·rw[lS2] at g;exact⟨m,d,g,(AE (hs.by_ d (by rw[g];simp))).1,by have:=hs.by_ d (by rw[g];simp);rintro rfl;revert this;decide⟩
   cases t with
   |wd s=>
    obtain⟨m,d,e,hd⟩:=y h.2.1;exact⟨m,d,by rw[cu];simp[Tk.B,tkB];exact e,hd⟩
   |sp=>exact absurd h.2 (by simp[okT])
   |nl=>exact absurd h.2 (by simp[okT])
   |em k s=>
    obtain⟨j,rfl⟩: ∃j,k=j+1:=⟨k - 1,by have:=h.2.2.1;omega⟩
    refine⟨hN (j+1) 42++(s++hN j 42),42,?_,by decide,by decide⟩;rw[cu];simp[Tk.B,tkB,lX4]
   |cd s=>exact⟨96::s,96,by rw[cu];simp[Tk.B,tkB],by decide,by decide⟩
   |lk s d=>exact⟨91::(s++93::40::d),41,by rw[cu];simp[Tk.B,tkB],by decide,by decide⟩
   |es s=>
    obtain⟨m,d,e,hd⟩:=y h.2.1;exact⟨92::42::m,d,by rw[cu];simp[Tk.B,tkB];exact e,hd⟩
  ·have I: ∃E,okT E r:=by
    cases t with
    |wd s=>exact⟨_,h.2.2⟩
    |sp=>exact⟨_,h.2⟩
    |nl=>exact⟨_,h.2⟩
    |em k s=>exact⟨_,h.2.2.2⟩
    |cd s=>exact⟨_,h.2.2⟩
    |lk s d=>exact⟨_,h.2.2.2⟩
    |es s=>exact⟨_,h.2.2⟩
   obtain⟨E,H⟩:=I;obtain⟨m,d,e,hd⟩:=okT.last H hr;exact⟨t.B++m,d,by rw[cu,e,lD0],hd⟩
theorem okT.next {r:List Tk}(h:okT 2 r):tkB r= []\/ ∃B',tkB r=32::B'\/tkB r=10::B':=by
 cases r with
 |nil=>exact .inl rfl
 |cons t r=>
  cases t with
  |sp=>exact .inr ⟨tkB r,.inl rfl⟩
  |nl=>exact .inr ⟨tkB r,.inr rfl⟩
  |wd s=>exact absurd rfl h.1
  |em k s=>exact absurd h.1 (by decide)
  |cd s=>exact absurd h.1 (by decide)
  |lk s d=>exact absurd h.1 (by decide)
  |es s=>exact absurd h.1 (by decide)
theorem okT.first {r:List Tk}(h:okT 0 r): ∃s g,r= .wd s::g/\WdP s:=by
 cases r with
 |nil=>exact absurd h (by simp[okT])
 |cons t r=>
  cases t with
  |wd s=>exact⟨s,r,rfl,h.2.1⟩
  |sp=>exact absurd h.1 (by decide)
  |nl=>exact absurd h.1 (by decide)
  |em k s=>exact absurd h.1 (by decide)
  |cd s=>exact absurd h.1 (by decide)
  |lk s d=>exact absurd h.1 (by decide)
  |es s=>exact absurd h.1 (by decide)
theorem uV {t:Inl}(ht:sA t=none)(h:Option UInt8):h=none\/sA t≠h:=by
 cases h with
 |none=>exact .inl rfl
 |some c=>exact .inr (by rw[ht];simp)
theorem pF {p:List UInt8}{h:Option UInt8}{ts:List Inl}(y:p≠ [])(g:nw none ts):nw h (fl p++ts):=by
 unfold fl;rw[if_neg y];exact⟨uV rfl h,g⟩
theorem kQ: ∀(l:List Tk) (n:Nat) (p:List UInt8) (h:Option UInt8),okT n l->(n=1->p≠ [])->(h=none\/p≠ []\/n=2)->nw h (tkG Tk.raw p l)
 | [],n,p,h,_,_,_=>by
  show nw h (fl p)
  unfold fl;split
  ·trivial
  ·exact⟨uV rfl h,trivial⟩
 | .wd s::r,n,p,h,hok,_,_=>kQ r 2 (p++s) h hok.2.2 (by simp) (.inr (.inr rfl))
 | .sp::r,n,p,h,hok,_,_=>kQ r 1 (p++ [32]) h hok.2 (by simp) (.inr (.inl (by simp)))
 | .nl::r,n,p,h,hok,_,_=>by
  have y:=kQ r 0 [] none hok.2 (by simp) (.inl rfl)
  show nw h (fl p++(.soft::tkG Tk.raw [] r))
  by_cases g:p= []
  ·subst g;exact⟨uV rfl h,y⟩
  ·exact pF g ⟨.inl rfl,y⟩
 | .em k s::r,n,p,h,hok,g,_=>by
  have y:=kQ r 2 [] (sA (.emphP (hN k 42) false true 0 (k:Nat))) hok.2.2.2 (by simp) (.inr (.inr rfl))
  exact pF (g hok.1) ⟨.inl rfl,⟨uV rfl _,⟨.inl rfl,y⟩⟩⟩
 | .cd s::r,n,p,h,hok,g,_=>pF (g hok.1) ⟨.inl rfl,kQ r 2 [] none hok.2.2 (by simp) (.inl rfl)⟩
 | .lk s d::r,n,p,h,hok,g,_=>pF (g hok.1) ⟨.inl rfl,kQ r 2 [] none hok.2.2.2 (by simp) (.inl rfl)⟩
 | .es s::r,n,p,h,hok,g,_=>pF (g hok.1) ⟨.inl rfl,kQ r 2 s none hok.2.2 (by simp) (.inl rfl)⟩
theorem ou {f:Tk->List Inl}: ∀(l:List Tk) (n:Nat) (p:List UInt8) (t:Inl),okT n l->t∈tkG f p l->(∃s,s≠ []/\s.length<=p.length+(tkB l).length/\t= .plain s)\/t= .esc [42]\/t∈f .nl\/(∃k s,WdP s/\(k=1\/k=2)/\t∈f (.em k s))\/(∃s,WdP s/\t∈f (.cd s))\/ ∃s d,WdP s/\DsP d/\t∈f (.lk s d)
 | [],n,p,t,_,h=>by
  have h:t∈fl p:=h;unfold fl at h;split at h
  ·cases h
  ·rename_i H;obtain rfl:=lR0.1 h;exact .inl ⟨p,H,by omega,rfl⟩
 | .wd s::r,n,p,t,hok,h=>by
  rcases ou r 2 (p++s) t hok.2.2 h with ⟨u,E,y,g⟩|h
  ·exact .inl ⟨u,E,by rw[cu,lA0];simp[Tk.B] at y⊢;omega,g⟩
  ·exact .inr h
 | .sp::r,n,p,t,hok,h=>by
  rcases ou r 1 (p++ [32]) t hok.2 h with ⟨u,E,y,g⟩|h
  ·exact .inl ⟨u,E,by rw[cu,lA0];simp[Tk.B] at y⊢;omega,g⟩
  ·exact .inr h
 | .es s::r,n,p,t,hok,h=>by
  have h:t∈fl p++ .esc [42]::tkG f s r:=h
  rcases lO0.1 h with h|h
  ·unfold fl at h;split at h
   ·cases h
   ·rename_i H;obtain rfl:=lR0.1 h;exact .inl ⟨p,H,by omega,rfl⟩
  ·rcases lX0.1 h with rfl|h
   ·exact .inr (.inl rfl)
   ·rcases ou r 2 s t hok.2.2 h with ⟨u,E,y,g⟩|h
    ·exact .inl ⟨u,E,by rw[cu,lA0];simp[Tk.B] at y⊢;omega,g⟩
    ·exact .inr h
 | .nl::r,n,p,t,hok,h=>by
  have h:t∈fl p++(f .nl++tkG f [] r):=h;rcases lO0.1 h with h|h
  ·unfold fl at h;split at h
   ·cases h
   ·rename_i H;obtain rfl:=lR0.1 h;exact .inl ⟨p,H,by omega,rfl⟩
  ·rcases lO0.1 h with h|h
   ·exact .inr (.inr (.inl h))
   ·rcases ou r 0 [] t hok.2 h with ⟨u,E,y,g⟩|h
    ·exact .inl ⟨u,E,by rw[cu,lA0];simp[Tk.B] at y⊢;omega,g⟩
    ·exact .inr h
 | .em k s::r,n,p,t,hok,h=>by
  have h:t∈fl p++(f (.em k s)++tkG f [] r):=h;rcases lO0.1 h with h|h
  ·unfold fl at h;split at h
   ·cases h
   ·rename_i H;obtain rfl:=lR0.1 h;exact .inl ⟨p,H,by omega,rfl⟩
  ·rcases lO0.1 h with h|h
   ·exact .inr (.inr (.inr (.inl ⟨k,s,hok.2.1,hok.2.2.1,h⟩)))
   ·rcases ou r 2 [] t hok.2.2.2 h with ⟨u,E,y,g⟩|h
    ·exact .inl ⟨u,E,by rw[cu,lA0];simp[Tk.B] at y⊢;omega,g⟩
    ·exact .inr h
 | .cd s::r,n,p,t,hok,h=>by
  have h:t∈fl p++(f (.cd s)++tkG f [] r):=h;rcases lO0.1 h with h|h
  ·unfold fl at h;split at h
   ·cases h
   ·rename_i H;obtain rfl:=lR0.1 h;exact .inl ⟨p,H,by omega,rfl⟩
  ·rcases lO0.1 h with h|h
   ·exact .inr (.inr (.inr (.inr (.inl ⟨s,hok.2.1,h⟩))))
   ·rcases ou r 2 [] t hok.2.2 h with ⟨u,E,y,g⟩|h
    ·exact .inl ⟨u,E,by rw[cu,lA0];simp[Tk.B] at y⊢;omega,g⟩
    ·exact .inr h
 | .lk s d::r,n,p,t,hok,h=>by
  have h:t∈fl p++(f (.lk s d)++tkG f [] r):=h;rcases lO0.1 h with h|h
  ·unfold fl at h;split at h
   ·cases h
   ·rename_i H;obtain rfl:=lR0.1 h;exact .inl ⟨p,H,by omega,rfl⟩
  ·rcases lO0.1 h with h|h
   ·exact .inr (.inr (.inr (.inr (.inr ⟨s,d,hok.2.1,hok.2.2.1,h⟩))))
   ·rcases ou r 2 [] t hok.2.2.2 h with ⟨u,E,y,g⟩|h
    ·exact .inl ⟨u,E,by rw[cu,lA0];simp[Tk.B] at y⊢;omega,g⟩
    ·exact .inr h
theorem wf_tk {l:List Tk}{n:Nat}{p:List UInt8}(h:okT n l):wfE (tkG Tk.raw p l):=by
 intro s I O i m E;rcases ou l n p _ h E with ⟨u,_,_,h⟩|h|h|⟨k,u,_,y,h⟩|⟨u,_,h⟩|⟨u,d,_,_,h⟩
 ·cases h
 ·cases h
 ·simp[Tk.raw] at h
 ·have g:s=hN k 42/\m=((k:Nat):Int):=by
   simp only[Tk.raw,lX0,lJ1,or_false] at h;rcases h with h|h|h
   ·injection h with h1 h2 h3 h4 h5;exact⟨h1,h5⟩
   ·cases h
   ·injection h with h1 h2 h3 h4 h5;exact⟨h1,h5⟩
  obtain⟨rfl,rfl⟩:=g;exact⟨by rcases y with rfl|rfl<;>simp,⟨42,.inl rfl,λx H=>(lT3.1 H).2⟩,by simp;omega,by omega,by omega⟩
 ·simp[Tk.raw] at h
 ·simp[Tk.raw] at h
theorem Ge {l:List Tk}{n:Nat}{p:List UInt8}(h:okT n l): ∀t∈tkG Tk.out p l,∀s,t.plain? =some s->s≠ []:=by
 intro t ht s hs;rcases ou l n p _ h ht with ⟨u,g,_,rfl⟩|rfl|h|⟨k,u,_,y,h⟩|⟨u,_,h⟩|⟨u,d,_,_,h⟩
 ·simp[Inl.plain?] at hs;subst hs;exact g
 ·simp[Inl.plain?] at hs
 ·simp[Tk.out] at h;subst h;simp[Inl.plain?] at hs
 ·simp only[Tk.out,lR0] at h;subst h;split at hs<;>simp[Inl.plain?] at hs
 ·simp[Tk.out] at h;subst h;simp[Inl.plain?] at hs
 ·simp[Tk.out] at h;subst h;simp[Inl.plain?] at hs
theorem A3 {l:List Tk}{n:Nat}{p:List UInt8}(h:okT n l)(U:p.length+(tkB l).length<1000000):lP (tkG Tk.out p l):=by
 have y: ∀ts:List Inl,(∀t∈ts,rJ t)->lP ts:=by
  intro ts
  induction ts with
  |nil=>intro _;rw[lP];trivial
  |cons t ts E=>intro h;rw[lP];exact⟨h t (.head _),E λx H=>h x (.tail _ H)⟩
 have one: ∀s:List UInt8,s.length<=100->lP [Inl.plain s]:=λs hs=>by
  rw[lP,rJ,lP];exact⟨by omega,trivial⟩
 refine y _ λt ht=>?_
 rcases ou l n p _ h ht with ⟨u,g,I,rfl⟩|rfl|h|⟨k,u,g,O,h⟩|⟨u,g,h⟩|⟨u,d,g,hd,h⟩
 ·rw[rJ];omega
 ·rw[rJ];simp
 ·simp[Tk.out] at h;subst h;rw[rJ];trivial
 ·simp only[Tk.out,lR0] at h;subst h;have:=one u g.len;split
  ·rw[rJ];exact⟨by simp,by simp,this⟩
  ·rw[rJ];exact⟨by simp,by simp,this⟩
 ·simp[Tk.out] at h;subst h;rw[rJ];have:=g.len;omega
 ·simp[Tk.out] at h;subst h;rw[rJ]
  have:=hd.len;exact⟨by omega,by simp,rfl,by simp,one u g.len⟩
theorem qI {q:List (List UInt8)}{t:Inl}{ts:List Inl}(h:t.plain? =none):d7 q (t::ts)=qO q++t::d7 [] ts:=by rw[d7,h]
theorem zQ (q:List (List UInt8))(p:List UInt8)(ts:List Inl):d7 q (.plain p::ts)=d7 (q++ [p]) ts:=rfl
theorem ph {p:List UInt8}{t:Inl}{ts:List Inl}(ht:t.plain? =none):d7 [] (fl p++(t::ts))=fl p++t::d7 [] ts:=by
 by_cases g:p= []
 ·subst g
  show d7 [] (t::ts)=_
  rw[qI ht];rfl
 ·have e:fl p= [.plain p]:=by simp[fl,g]
  rw[e,lR2,zQ,qI ht];simp[qO]
theorem kH: ∀(l:List Tk) (n:Nat) (p:List UInt8),okT n l->kI (tkG Tk.out p l)=tkG Tk.out p l
 | [],n,p,_=>by
  show kI (fl p)=fl p
  by_cases y:p= []
  ·subst y;rfl
  ·simp[fl,y,kI,d7,qO,Inl.plain?]
 | .wd s::r,n,p,h=>kH r 2 _ h.2.2
 | .sp::r,n,p,h=>kH r 1 _ h.2
 | .nl::r,n,p,h=>by
  have g:=kH r 0 [] h.2
  show d7 [] (fl p++(.soft::tkG Tk.out [] r))=fl p++(.soft::tkG Tk.out [] r)
  rw[ph rfl];unfold kI at g;rw[g]
 | .em k s::r,n,p,h=>by
  have g:=kH r 2 [] h.2.2.2;have y: ∀c:Prop,[Decidable c]->(if c then Inl.emph [42] [.plain s] else Inl.strong [42,42] [.plain s]).plain? =none:=by intro c _;split<;>rfl
  show d7 [] (fl p++((if k=1 then Inl.emph [42] [.plain s] else .strong [42,42] [.plain s])::tkG Tk.out [] r))=fl p++((if k=1 then Inl.emph [42] [.plain s] else .strong [42,42] [.plain s])::tkG Tk.out [] r)
  rw[ph (y _)];unfold kI at g;rw[g]
 | .cd s::r,n,p,h=>by
  have g:=kH r 2 [] h.2.2
  show d7 [] (fl p++(.code s::tkG Tk.out [] r))=fl p++(.code s::tkG Tk.out [] r)
  rw[ph rfl];unfold kI at g;rw[g]
 | .lk s d::r,n,p,h=>by
  have g:=kH r 2 [] h.2.2.2
  show d7 [] (fl p++(.link [.plain s] d [] 0 false::tkG Tk.out [] r))=fl p++(.link [.plain s] d [] 0 false::tkG Tk.out [] r)
  rw[ph rfl];unfold kI at g;rw[g]
 | .es s::r,n,p,h=>by
  have g:=kH r 2 s h.2.2
  show d7 [] (fl p++(.esc [42]::tkG Tk.out s r))=fl p++(.esc [42]::tkG Tk.out s r)
  rw[ph rfl];unfold kI at g;rw[g]
theorem pY (p:List UInt8):rh (fl p)=p.length:=by
 by_cases g:p= []
 ·subst g;rfl
 ·simp[fl,g,rh,Inl.plain?]
theorem mL: ∀(l:List Tk) (n:Nat) (p:List UInt8),okT n l->rh (tkG Tk.out p l)<=p.length+(tkB l).length
 | [],n,p,_=>by show rh (fl p)<=_;rw[pY];omega
 | .wd s::r,n,p,h=>by have:=mL r 2 (p++s) h.2.2;rw[cu,lA0];simp[Tk.B,tkG] at this⊢;omega
 | .sp::r,n,p,h=>by have:=mL r 1 (p++ [32]) h.2;rw[cu,lA0];simp[Tk.B,tkG] at this⊢;omega
 | .nl::r,n,p,h=>by
  have:=mL r 0 [] h.2;rw[cu,lA0];simp only[tkG,jb,pY];simp[Tk.B,Tk.out,rh,Inl.plain?] at this⊢;omega
 | .em k s::r,n,p,h=>by
  have:=mL r 2 [] h.2.2.2;have g:rh (Tk.out (.em k s))=0:=by show rh [if k=1 then Inl.emph [42] [.plain s] else Inl.strong [42,42] [.plain s]]=0;split<;>rfl
  rw[cu,lA0];simp only[tkG,jb,pY,g];simp at this⊢;omega
 | .cd s::r,n,p,h=>by
  have:=mL r 2 [] h.2.2;rw[cu,lA0];simp only[tkG,jb,pY];simp[Tk.B,Tk.out,rh,Inl.plain?] at this⊢;omega
 | .lk s d::r,n,p,h=>by
  have:=mL r 2 [] h.2.2.2;rw[cu,lA0];simp only[tkG,jb,pY];simp[Tk.B,Tk.out,rh,Inl.plain?] at this⊢;omega
 | .es s::r,n,p,h=>by
  have:=mL r 2 s h.2.2;rw[cu,lA0];simp only[tkG,jb,pY,rh,Inl.plain?];simp[Tk.B] at this⊢;omega
theorem xy {l:List UInt8}{c d:UInt8}{t m:List UInt8}(E:l=c::t)(hc:cL c=false)(g:l=m++ [d])(hd:cL d=false):gf cL l=l:=by
 unfold gf vC;have y:l.dropWhile cL=l:=by rw[E,lB3,hc];rfl
 rw[y];have H:l.reverse=d::m.reverse:=by rw[g];simp
 rw[H,lB3,hd];simp[g]

theorem md {raw:List UInt8}{e i:Nat}(ts:List Inl)(I:e<=i)(E:i<=raw.length):kt raw e i ts=ts++fl (sub raw e i):=by
 have y:=pV (s:=raw) (i:=e) (j:=i) E
 unfold kt fl
 by_cases g:e<i
 ·rw[if_pos g,if_neg (by intro H;rw[H] at y;simp at y;omega)]
 ·rw[if_neg g,if_pos (lC1 (by omega)),lG0]
theorem B9 (p:List UInt8):(fl p).length<=1:=by unfold fl;split<;>simp
theorem WdP.last {s:List UInt8}(h:WdP s): ∃m d,s=m++ [d]/\cL d=false:=by
 rcases lE2 s with g|⟨m,d,g⟩
 ·exact absurd g h.ne
 ·rw[lS2] at g;exact⟨m,d,g,(AE (h.by_ d (by rw[g];simp))).1⟩
theorem AtD.word {X:XI}{b pb e:Nat}{p0:PS}{A s B raw:List UInt8}{ts:List Inl}{opens:List Nat}{lo:Int}{o:Opt}(O:xf R X b raw)(g:raw=A++(s++B))(H: ∀c∈s,wB c=true)(hs:raw.length<1000000000)(E:p0.pz=kE pb)(I:o.at pb∈L)(h:AtD X σ b p0 raw L (A.length+s.length) e ts opens lo):AtD X σ b p0 raw L A.length e ts opens lo:=by
 have V:raw.length=A.length+(s.length+B.length):=by rw[g];simp
 refine AtD.plains O hs E I s.length A.length (by omega) (λj a6 U W=>?_) h;have y:wB raw[j]=true:=by
  obtain⟨k,rfl⟩: ∃k,j=A.length+k:=⟨j - A.length,by omega⟩
  have:raw[A.length+k]=s[k]'(by omega):=by
   subst g;rw[lK2 (by omega)];simp only[lX5];rw[lP5]
  rw[this];exact H _ (lP1 _)
 exact⟨F0 y o,(vx y).2.2.2.2.2.1⟩
theorem tz {o:Opt}(e8:o.auto=false){l:List Tk}(b3:okT 0 l)(e9:(tkB l).length<200000):js none [] o (tkB l) (tkG Tk.out [] l):=by
 intro σ R b pb p L w _ h f0 W j0 i0;have e7:=DH b3;have f2:=wf_tk (p:= []) b3;have h3:=kQ l 0 [] none b3 (by simp) (.inl rfl);have f3:=Ge (p:= []) b3;have e3:=mL l 0 [] b3;have g3:=kH l 0 [] b3;have f6:gf cL (tkB l)=tkB l:=by
  obtain⟨s,r,rfl,hs⟩:=b3.first
  obtain⟨m,d,e,hd,_⟩:=b3.last (by simp);obtain⟨c,t,rfl⟩:=lA1 hs.ne;exact xy (c:=c) (t:=t++tkB r) rfl (AE (hs.by_ c (.head _))).1 e hd
 refine BQ h (by omega) λw h=>?_
 rw[f6] at h⊢;generalize hr:tkB l=raw at h e9 e3⊢;intro X i1;have O:xf R X b raw:=λl5 _ _ _ _ _ _ h=>i1 _ _ _ _ _ _ _ _ _ h
 generalize c8:({p with s:=raw,em:=0,lq:=none,ln:=0,lc:=0}:PS)=p0 at h;have I:p0.pz=kE pb:=by rw[<-c8];exact f0
 have h4:p0.coreS=p.coreS:=by rw[<-c8];rfl
 have a6:raw.length<1000000000:=by omega
 suffices f4:AtD X σ b p0 raw L 0 0 [] [] 0 from f4 false w p0 none 0 0 (λh=>by cases h) rfl (by rw[<-c8]) (by rw[<-c8];rfl) h
 have g5: ∀(suf:List Tk) (n:Nat) (A:List UInt8) (e:Nat) (ts:List Inl) (lo:Int),raw=A++tkB suf->okT n suf->(n=1-> ∃g,A=g++ [32])->(n=2-> ∃g c,A=g++ [c]/\cL c=false)->e<=A.length->ts.length<=4*A.length->lo<=(A.length:Int)->
  ts++tkG Tk.raw (sub raw e A.length) suf=tkG Tk.raw [] l->AtD X σ b p0 raw L A.length e ts [] lo:=by
  intro suf
  induction suf with
  |nil=>
   intro n A e ts lo E H _ _ a7 e1 e2 V;have E:raw=A:=by rw[E];simp[tkB]
   subst E;refine AtD.fin (ts':=tkG Tk.out [] l) O a6 I W e8 (by omega) ?_ f3 (by simp at e3;omega) λw p' q n c vs RM EM f5 h9 h5 e5 h=>?_
   ·rw[md ts a7 (lZ0 _)];have V:ts++fl (sub raw e raw.length)=tkG Tk.raw [] l:=V;rw[V,<-e7];refine Ad f2 h3 ?_;rw[<-V,lA0];have:=B9 (sub raw e raw.length);omega
   ·rw[g3] at e5;exact i0 w p' q n c vs RM EM (f5.trans h4) h9 h5 e5 h
  |cons t suf b9=>
   intro n A e ts lo E H i2 i3 a7 e1 e2 V;rw[cu] at E;have c1:raw.length=A.length+(t.B.length+(tkB suf).length):=by rw[E];simp
   have h6:=B9 (sub raw e A.length);have b8:raw=(A++t.B)++tkB suf:=by rw[E,lD0]
   have y:(A++t.B).length=A.length+t.B.length:=lA0;cases t with
   |wd s=>
    have hs:=H.2.1;have E:raw=A++(s++tkB suf):=E;refine AtD.word O E hs.by_ a6 I W ?_;have:=b9 2 (A++s) e ts lo b8 H.2.2 (by simp) (λ_=>by obtain⟨m,d,e,hd⟩:=hs.last;exact⟨A++m,d,by rw[e,lD0],hd⟩) (by simp;omega) (by simp;omega) (by simp;omega) ?_
    ·simpa using this
    ·have c5:=yS (A:=A) (B:=tkB suf) (e:=e) s a7
     rw[<-E] at c5;rw[lA0,c5];exact V
   |sp=>
    have E:raw=A++32::tkB suf:=E
    have hi:A.length<raw.length:=by rw[c1];simp[Tk.B];omega
    have d2:raw[A.length]=32:=by subst E;rw[lK2 (lZ0 _)];simp
    refine AtD.plain O hi a6 I W (by rw[d2];rfl) (.inr rfl) ?_;have:=b9 1 (A++ [32]) e ts lo b8 H.2 (λ_=>⟨A,rfl⟩) (by simp) (by simp;omega) (by simp;omega) (by simp;omega) ?_
    ·simpa using this
    ·have c5:=yS (A:=A) (B:=tkB suf) (e:=e) [32] a7
     rw[show A++([32]++tkB suf)=raw from E.symm] at c5;rw[lA0,c5];exact V
   |nl=>
    have E:raw=A++10::tkB suf:=E
    have hi:A.length<raw.length:=by rw[c1];simp[Tk.B];omega
    have d2:raw[A.length]=10:=by subst E;rw[lK2 (lZ0 _)];simp
    have g6: ∀k,k+1=A.length->cL (A.getD k 0)=false:=by
     obtain⟨g,c,rfl,hc⟩:=i3 H.1;intro k d1;simp at d1;subst d1;rw[pw (lZ0 _),lV1];exact hc
    have g0:0<(tkB suf).length->cL ((tkB suf).getD 0 0)=false:=by
     intro _;obtain⟨s,j1,rfl,hs⟩:=H.2.first
     obtain⟨c,t,rfl⟩:=lA1 hs.ne;exact(AE (hs.by_ c (.head _))).1
    refine AtD.leaf (st:=A.length) (en:=A.length+1) (t:= .soft) O hi a6 I W (f:=jD) (by rw[d2];rfl) (L0:= []) (by simp) (λp _ _=>by rw[E];exact Ak g6 g0 (by rw[<-E];omega)) (by omega) (by omega) (by simp) ?_;rw[md ts a7 (by omega)];have:=b9 0 (A++ [10]) (A.length+1) (ts++fl (sub raw e A.length)++ [.soft]) lo b8 H.2 (by simp) (by simp) (by simp) (by simp;omega) (by simp;omega) ?_
    ·simpa[Inl.isOpen] using this
    ·rw[lA0,lE0,sub_self,<-V];simp[tkG,Tk.raw]
   |em k s=>
    obtain⟨g,rfl⟩:=i2 H.1;have hs:=H.2.1;have d1:=H.2.2.1;have e0:=H.2.2.2;have b7:(Tk.em k s).B.length=k+(s.length+k):=by simp[Tk.B]
    rw[b7] at c1 y;have b6:(g++ [32]).length=g.length+1:=by simp
    have U:raw=g++32::(hN k 42++(s++(hN k 42++tkB suf))):=by rw[E];simp[Tk.B]
    have r2:raw=(g++ [32])++(hN k 42++(s++(hN k 42++tkB suf))):=by rw[U];simp
    have b4:raw=(g++ [32]++hN k 42)++(s++(hN k 42++tkB suf)):=by rw[r2,lD0 (g++ [32])]
    have h8:raw=(g++ [32]++hN k 42++s)++(hN k 42++tkB suf):=by rw[b4,lD0 _ s]
    have l3:(g++ [32]++hN k 42).length=g.length+1+k:=by simp;omega
    have l4:(g++ [32]++hN k 42++s).length=g.length+1+k+s.length:=by simp;omega
    have e4: ∀(Y B:List UInt8) (i:Nat) (hi:i<raw.length),raw=Y++(hN k 42++B)->Y.length=i->raw[i]=42:=by
     intro Y B i hi h7 g7;have:raw[i]? =some 42:=by
      rw[h7,lH0 (by omega),g7,lV1];obtain⟨j,rfl⟩: ∃j,k=j+1:=⟨k - 1,by omega⟩
      rfl
     rw[lI0 hi] at this;exact Option.some.inj this
    rw[b6] at a7 e1 e2 V c1⊢;have h6:(fl (sub raw e (g.length+1))).length<=1:=B9 _;have c2:=e4 _ _ (g.length+1) (by omega) r2 b6;have d0:=e4 _ _ (g.length+1+k+s.length) (by omega) h8 l4;refine AtD.leaf (st:=g.length+1) (en:=g.length+1+k) (t:= .emphP (hN k 42) true false 0 (k:Nat)) O (by omega) a6 I W (f:=dO) (by rw[c2];rfl) (L0:= []) (by simp) (λp _ _=>?_) (by omega) (by omega) (by simp) ?_
    ·rw[U];exact hs.opn b p g _ k (by omega) (by rw[<-U];omega)
    rw[md ts a7 (by omega)];have c3:(Inl.emphP (hN k 42) true false 0 (k:Nat)).isOpen=false:=rfl
    rw[c3]
    show AtD X σ b p0 raw L (g.length+1+k) (g.length+1+k) _ [] lo
    have b5:=AtD.word (X:=X) (σ:=σ) (p0:=p0) (e:=g.length+1+k) (ts:=ts++fl (sub raw e (g.length+1))++ [.emphP (hN k 42) true false 0 (k:Nat)]) (opens:= []) (lo:=lo) O b4 hs.by_ a6 I W
    rw[l3] at b5;refine b5 ?_;refine AtD.leaf (st:=g.length+1+k+s.length) (en:=g.length+1+k+s.length+k) (t:= .emphP (hN k 42) false true 0 (k:Nat)) O (by omega) a6 I W (f:=dO) (by rw[d0];rfl) (L0:= []) (by simp) (λp _ _=>?_) (by omega) (by simp;omega) (by simp) ?_
    ·have:=hs.cls b p (g++ [32]++hN k 42) (tkB suf) k (by omega) e0.next (by rw[<-b4];omega)
     rw[<-b4,l3] at this;exact this
    have c4:sub raw (g.length+1+k) (g.length+1+k+s.length)=s:=by
     have:=pU (g++ [32]++hN k 42) s (hN k 42++tkB suf);rw[<-b4,l3] at this;exact this
    have g4:fl s= [.plain s]:=by unfold fl;rw[if_neg hs.ne]
    rw[md _ (by omega) (by omega),c4,g4];have e6:(Inl.emphP (hN k 42) false true 0 (k:Nat)).isOpen=false:=rfl
    rw[e6]
    show AtD X σ b p0 raw L (g.length+1+k+s.length+k) (g.length+1+k+s.length+k) _ [] lo
    have:=b9 2 ((g++ [32])++(Tk.em k s).B) (g.length+1+k+s.length+k) (ts++fl (sub raw e (g.length+1))++ [.emphP (hN k 42) true false 0 (k:Nat)]++ [.plain s]++ [.emphP (hN k 42) false true 0 (k:Nat)]) lo b8 e0 (by simp) (λ_=>?_) (by rw[y,b6];omega) ?_ (by rw[y,b6];omega) ?_
    ·rw[y,b6,show g.length+1+(k+(s.length+k))=g.length+1+k+s.length+k by omega] at this;exact this
    ·obtain⟨j,rfl⟩: ∃j,k=j+1:=⟨k - 1,by omega⟩
     exact⟨(g++ [32])++(hN (j+1) 42++(s++hN j 42)),42,by simp[Tk.B,lX4],by decide⟩
    ·rw[y,b6];simp only[lA0,lE0];omega
    ·rw[y,b6,show g.length+1+(k+(s.length+k))=g.length+1+k+s.length+k by omega,sub_self,<-V];simp[tkG,Tk.raw]
   |cd s=>
    have hs:=H.2.1;have U:raw=A++96::(s++96::tkB suf):=by rw[E];simp[Tk.B]
    have b7:(Tk.cd s).B.length=s.length+2:=by simp[Tk.B]
    rw[b7] at c1 y;refine AtD.code O U hs.ne (λc hc=>?_) ?_ (by omega) I W (by omega) (by simp) ?_
    ·have:=vx (hs.by_ c hc);exact⟨this.2.1,this.2.2.2.2.1,this.2.2.2.2.2.2.2.1⟩
    ·rcases H.2.2.next with d3|⟨B',d3|d3⟩<;>rw[d3]<;>simp
    rw[md ts a7 (by omega)];have:=b9 2 (A++(Tk.cd s).B) (A.length+s.length+2) (ts++fl (sub raw e A.length)++ [.code s]) lo b8 H.2.2 (by simp) (λ_=>⟨A++96::s,96,by simp[Tk.B],by decide⟩) (by rw[y];omega) (by rw[y];simp;omega) (by rw[y];omega) ?_
    ·rw[y] at this;exact this
    ·rw[y,show A.length+s.length+2=A.length+(s.length+2) by omega,sub_self,<-V];simp[tkG,Tk.raw]
   |lk s d=>
    have hs:=H.2.1;have hd:=H.2.2.1;have U:raw=A++91::(s++93::40::(d++41::tkB suf)):=by rw[E];simp[Tk.B]
    have r2:raw=(A++ [91])++(s++93::40::(d++41::tkB suf)):=by rw[U];simp
    have b4:raw=(A++ [91]++s)++93::40::(d++41::tkB suf):=by rw[r2,lD0 _ s]
    have l2:(A++ [91]).length=A.length+1:=by simp
    have l3:(A++ [91]++s).length=A.length+1+s.length:=by simp;omega
    have b7:(Tk.lk s d).B.length=s.length+d.length+4:=by simp[Tk.B];omega
    rw[b7] at c1 y;have c2:raw[A.length]'(by omega)=91:=by
     have:raw[A.length]? =some 91:=by rw[U,lH0 (lZ0 _),lV1];rfl
     rw[lI0 (by omega)] at this;exact Option.some.inj this
    have d0:raw[A.length+1+s.length]'(by omega)=93:=by
     have:raw[A.length+1+s.length]? =some 93:=by rw[b4,lH0 (by omega),l3,lV1];rfl
     rw[lI0 (by omega)] at this;exact Option.some.inj this
    refine AtD.leaf (st:=A.length) (en:=A.length+1) (t:= .openP [91] (A.length+1)) O (by omega) a6 I W (f:=gl) (by rw[c2];rfl) (L0:= []) (by simp) (λp _ _=>uL (by omega) (by omega) c2) (by omega) (by omega) (by simp) ?_;rw[md ts a7 (by omega)];have c3:(Inl.openP [91] (A.length+1)).isOpen=true:=rfl;rw[c3]
    show AtD X σ b p0 raw L (A.length+1) (A.length+1) _ ([]++ [(ts++fl (sub raw e A.length)).length]) lo
    have b5:=AtD.word (X:=X) (σ:=σ) (p0:=p0) (e:=A.length+1) (ts:=ts++fl (sub raw e A.length)++ [.openP [91] (A.length+1)]) (opens:= []++ [(ts++fl (sub raw e A.length)).length]) (lo:=lo) O r2 hs.by_ a6 I W
    rw[l2] at b5;refine b5 ?_;have c4:sub raw (A.length+1) (A.length+1+s.length)=s:=by
     have:=pU (A++ [91]) s (93::40::(d++41::tkB suf))
     rw[<-r2,l2] at this;exact this
    have c9:mr raw (A.length+1) (A.length+1+s.length)= [.plain s]:=by
     have:=lY0.2 hs.ne;unfold mr;rw[if_pos (by omega),c4]
    have f1: ∀p:PS,vt b p raw (A.length+1+s.length) [91] (A.length+1) [] d [] 0 false (A.length+1+s.length+3+d.length):=by
     intro p;have:=yy (b:=b) (p:=p) (A:=A++ [91]++s) (B:=tkB suf) (D:=d) (t:= [91]) (k:=A.length+1) (by rw[<-b4];omega) hd.ne hd.by_
     rw[<-b4,l3] at this;exact this
    refine AtD.close (en:=A.length+1+s.length+3+d.length) (url:=d) (title:= []) (tc:=0) (cor:=false) (img:=false) (L0:= []) (ts1:=ts++fl (sub raw e A.length)) (ts2:= []) O (by omega) (by omega) d0 I W (by simp) rfl (by simp) (.inr (by omega)) (by have:=hd.len;omega) (λp _ _=>f1 p) (by rw[c9];simp) ?_ ?_ (by simp;omega) (by simp) ?_
    ·rw[c9];intro s' m1 k0 i m i8;simp at i8
    ·rw[c9];exact⟨.inl rfl,trivial⟩
    rw[c9]
    show AtD X σ b p0 raw L _ _ (ts++fl (sub raw e A.length)++ [.link [.plain s] d [] 0 false]) [] ((A.length+1:Nat):Int)
    have:=b9 2 (A++(Tk.lk s d).B) (A.length+1+s.length+3+d.length) (ts++fl (sub raw e A.length)++ [.link [.plain s] d [] 0 false]) ((A.length+1:Nat):Int) b8 H.2.2.2 (by simp) (λ_=>⟨A++91::(s++93::40::d),41,by simp[Tk.B],by decide⟩) (by rw[y];omega) (by rw[y];simp;omega) (by rw[y];omega) ?_
    ·rw[y,show A.length+(s.length+d.length+4)=A.length+1+s.length+3+d.length by omega] at this;exact this
    ·rw[y,show A.length+(s.length+d.length+4)=A.length+1+s.length+3+d.length by omega,sub_self,<-V];simp[tkG,Tk.raw]
   |es s=>
    have hs:=H.2.1;have U:raw=A++92::42::(s++tkB suf):=by rw[E];simp[Tk.B]
    have r2:raw=(A++ [92,42])++(s++tkB suf):=by rw[U];simp
    have l2:(A++ [92,42]).length=A.length+2:=by simp
    have b7:(Tk.es s).B.length=s.length+2:=by simp[Tk.B]
    rw[b7] at c1 y;have c2:raw[A.length]'(by omega)=92:=by
     have:raw[A.length]? =some 92:=by rw[U,lH0 (lZ0 _),lV1];rfl
     rw[lI0 (by omega)] at this;exact Option.some.inj this
    refine AtD.leaf (st:=A.length) (en:=A.length+2) (t:= .esc [42]) O (by omega) a6 I W (f:=iU) (by rw[c2];rfl) (L0:= []) (by simp) (λp _ _=>by rw[U];exact yr (by decide) (by rw[<-U];omega)) (by omega) (by omega) (by simp) ?_;rw[md ts a7 (by omega)];have c3:(Inl.esc [42]).isOpen=false:=rfl;rw[c3]
    show AtD X σ b p0 raw L (A.length+2) (A.length+2) _ [] lo
    have b5:=AtD.word (X:=X) (σ:=σ) (p0:=p0) (e:=A.length+2) (ts:=ts++fl (sub raw e A.length)++ [.esc [42]]) (opens:= []) (lo:=lo) O r2 hs.by_ a6 I W
    rw[l2] at b5;refine b5 ?_;have c4:sub raw (A.length+2) (A.length+2+s.length)=s:=by
     have:=pU (A++ [92,42]) s (tkB suf);rw[<-r2,l2] at this;exact this
    have:=b9 2 (A++(Tk.es s).B) (A.length+2) (ts++fl (sub raw e A.length)++ [.esc [42]]) lo b8 H.2.2 (by simp) (λ_=>by obtain⟨m,d,e,hd⟩:=hs.last;exact⟨A++92::42::m,d,by rw[e];simp[Tk.B],hd⟩) (by rw[y];omega) (by rw[y];simp;omega) (by rw[y];omega) ?_
    ·rw[y,show A.length+(s.length+2)=A.length+2+s.length by omega] at this;exact this
    ·rw[y,show A.length+(s.length+2)=A.length+2+s.length by omega,c4,<-V];simp[tkG]
 exact g5 l 0 [] 0 [] 0 (by rw[<-hr];rfl) b3 (by simp) (by simp) (by simp) (by simp) (by simp) (by simp[sub])
def fB (R:EP)(b6:OA)(w:World):Prop:=tk w λE=>aA b6 λa2=>aA b6 λa3=>∃b4 b5 c1,E.cell? (a2.add 4)=some (hT b4 b5 c1)/\∃c2 g b7,E.cell? (a3.add 4)=some (hT c2 g b7)/\0<=(i64.wrap ((g:Int) - 1))/\(i64.wrap ((g:Int) - 1))<(b5:Int)/\aA b4 λy=>tk E λH=>∃V W a7,H.cell? ((y.add (Int.toNat (i64.wrap ((g:Int) - 1))*4)).add 1)=some (hT V W a7)/\∃c3 b3 b8,H.cell? ((y.add (Int.toNat (i64.wrap ((g:Int) - 1))*4)).add 1)=some (hT c3 b3 b8)/\∃I U O,(∀w,(Instr.sliceAt fM (hT V W a7) none (some (hY (i64.wrap ((b3:Int) - 1)))) none).run P w= .ok (hT I U O) w)/\stV H (((y.add (Int.toNat (i64.wrap ((g:Int) - 1))*4)).add 1).add 0) (hT I U O) λb9=>R (hQ (.tuple #[])) b9
theorem fB.sound {R x0 w}(h:fB R x0 w):callE P iT #[kT x0] R w:=
 aH [(2,.dr (rpN [0,3,6,12,15,18,10,22,24,27,30,33])),(3,.dr (rpN [0,3,6,9,15,18,21,13,25,27,30,33,36,39,44]))] Tryz.func196 Tryz.call196 h
def jm (R:EP)(b3:OA)(w:World):Prop:=tk w λH=>aA b3 λa2=>aA b3 λa3=>∃I W b6,H.cell? (a2.add 4)=some (hT I W b6)/\∃b8 g b9,H.cell? (a3.add 4)=some (hT b8 g b9)/\0<=(i64.wrap ((g:Int) - 1))/\(i64.wrap ((g:Int) - 1))<(W:Int)/\aA I λa7=>tk H λE=>∃V U b7,E.cell? ((a7.add (Int.toNat (i64.wrap ((g:Int) - 1))*4)).add 1)=some (hT V U b7)/\∃b5 y b4,E.cell? ((a7.add (Int.toNat (i64.wrap ((g:Int) - 1))*4)).add 1)=some (hT b5 y b4)/\0<=(i64.wrap ((y:Int) - 1))/\(i64.wrap ((y:Int) - 1))<(U:Int)/\aA V λa10=>∃(O:Value),E.cell? (a10.add (Int.toNat (i64.wrap ((y:Int) - 1))*1))=some O/\R (hQ O) E
theorem jm.sound {R x0 w}(h:jm R x0 w):callE P lC #[kT x0] R w:=
 aH [(5,.dr (rpN [0,3,6,12,15,18,10,22,24,27,30,33])),(11,.dr (rpN [0,3,6,12,15,18,10,22,24,27,30,34,36]))] Tryz.func195 Tryz.call195 h
def yl (R:EP)(y:OA)(w:World):Prop:=aA y λa1=>∃g,w.cell? (a1.add 2)=some (hX g)/\R (hQ (hX g)) w
theorem yl.sound {R x0 w}(h:yl R x0 w):callE P B1 #[kT x0] R w:=
 cC Tryz.func52 Tryz.call52 h
def fZ (R:EP)(E:OA)(d1:Value)(w:World):Prop:=aA E λa1=>∃c1,w.cell? (a1.add 5)=some (hY c1)/\callE P bj #[kT E,hY (i64.wrap (c1+1))] (λe c8=>e= hQ (.tuple #[])/\tk c8 λy=>aA E λd0=>aA E λc9=>∃b6 b7 c2,y.cell? (d0.add 4)=some (hT b6 b7 c2)/\∃c5 g c3,y.cell? (c9.add 4)=some (hT c5 g c3)/\0<=(i64.wrap ((g:Int) - 1))/\(i64.wrap ((g:Int) - 1))<(b7:Int)/\aA b6 λa10=>∃b3 I O,y.cell? ((a10.add (Int.toNat (i64.wrap ((g:Int) - 1))*4)).add 1)=some (hT b3 I O)/\∃U b4,∃W b9,(Instr.buildSlice fM 1 #[(0,d1)]).run P y= .ok (hT U b4 W) b9/\∃H b5,∃V b8,(Builtin.append_ #[fM,fM] fM #[hT b3 I O,hT U b4 W]).run P b9= .ok (hT H b5 V) b8/\stV b8 (((a10.add (Int.toNat (i64.wrap ((g:Int) - 1))*4)).add 1).add 0) (hT H b5 V) λc4=>R (hQ (.tuple #[])) c4) w
theorem fZ.sound {R x0 x1 w}(h:fZ R x0 x1 w):callE P dL #[kT x0,x1] R w:=
 aH [(5,.dr (rpN [0,3,6,12,15,18,10,22,24,27,30,33]))] Tryz.func191 Tryz.call191 h

structure LnR (l:Ln) (s:List UInt8):Prop where
 ok:l.ok
 sp:l.sp=0
 tx:l.text.drop l.i=s
theorem LnR.has {l:Ln}{c:UInt8}{r:List UInt8}(h:LnR l (c::r)):l.has c r:=⟨h.ok,h.sp,h.tx⟩
theorem LnR.skip {l:Ln}{a s:List UInt8}(h:LnR l (a++s)):LnR {l with i:=l.i+a.length} s:=by
 have g:=congrArg List.length h.tx;rw[lL1,lA0] at g;have H:=h.ok.i;have I:=h.ok.tab;have y:=h.ok.len;have E:=h.ok.sp
 refine⟨⟨by show l.i+a.length<=l.text.length;omega,by show l.tab<=l.i+a.length;omega,y,E⟩,h.sp,?_⟩
 show l.text.drop (l.i+a.length)=s
 rw[<-lJ5,h.tx,lB4]
theorem LnR.quote {l:Ln}{s:List UInt8}(h:LnR l (62::32::s)):l.quote=some {l with i:=l.i+2}/\LnR {l with i:=l.i+2} s:=by
 refine⟨?_,LnR.skip (a:= [62,32]) h⟩;have g:=h.has;unfold Ln.quote;rw[g.lead (by decide) 2,g.trimC,if_pos rfl]
 show some (Ln.lead 1 true _)=_
 have y:({l with i:=l.i+1}:Ln).has 32 s:=(LnR.skip (a:= [62]) h).has
 unfold Ln.lead;rw[y.sp1];rfl
theorem LnR.tsPad {mn:Nat}{e:Bool}{s:List UInt8}: ∀(j n:Nat) {l:Ln},LnR l (hN j 32++s)->l.tsGo mn e j n=some {l with i:=l.i+j}
 |0,n,l,h=>by simp[Ln.tsGo]
 |j+1,n,l,h=>by
  have E:LnR l (32::(hN j 32++s)):=by rw[lX1] at h;exact h
  have g:=E.has;have O:=g.lt;have y:=g.get;have H:=LnR.tsPad (mn:=mn) (e:=e) (s:=s) j (n+1) (LnR.skip (a:= [32]) E)
  have U:=h.sp;have I:l.tsGo mn e (j+1) n=({l with i:=l.i+ [(32:UInt8)].length}:Ln).tsGo mn e j (n+1):=by
   rw[Ln.tsGo,if_neg (by omega),if_neg (by omega),if_neg (by rw[y];decide),if_pos y];rfl
  rw[I,H]
  show some ({l with i:=l.i+1+j}:Ln)=some {l with i:=l.i+(j+1)}
  rw[lU3,lD3]
theorem LnR.pad {l:Ln}{w:Nat}{s:List UInt8}(h:LnR l (hN w 32++s)):l.trimSp w w true=some {l with i:=l.i+w}/\LnR {l with i:=l.i+w} s:=by
 refine⟨LnR.tsPad w 0 h,?_⟩;have:=LnR.skip h;rw[lG2] at this;exact this
theorem LnR.tsEnd {mn:Nat}: ∀(j n:Nat) {l:Ln},l.sp=0->l.text.length<=l.i->l.tsGo mn true j n=some l
 |0,n,l,_,_=>by simp[Ln.tsGo]
 |j+1,n,l,h1,h2=>by
  rw[Ln.tsGo,if_neg (by omega),if_pos ⟨h2,rfl⟩];exact LnR.tsEnd j (n+1) h1 h2
theorem LnR.lenNil {l:Ln}(h:LnR l []):l.text.length<=l.i:=by
 have:=congrArg List.length h.tx;simp at this;omega
theorem LnR.padEnd {l:Ln}{w:Nat}(h:LnR l []):l.trimSp w w true=some l:=LnR.tsEnd w 0 h.sp h.lenNil
theorem LnR.padNo {l:Ln}{w:Nat}{c:UInt8}{r:List UInt8}(h:LnR l (c::r))(hc:cL c=false)(g:1<=w):l.trimSp w w true=none:=by
 obtain⟨k,rfl⟩: ∃k,w=k+1:=⟨w - 1,by omega⟩
 unfold Ln.trimSp;rw[h.has.tsGo hc,if_neg (by omega)]
inductive CX where
 |q
 |i (w:Nat)
def CX.pre:CX->List UInt8->List UInt8
 | .q,s=>62::32::s
 | .i w,s=>if s= [] then [] else hN w 32++s
def ctx:List CX->List UInt8->List UInt8
 | [],s=>s
 |c::cs,s=>c.pre (ctx cs s)
theorem nQ (a b:List CX)(s:List UInt8):ctx (a++b) s=ctx a (ctx b s):=by
 induction a with
 |nil=>rfl
 |cons c a g=>show c.pre (ctx (a++b) s)=c.pre (ctx a (ctx b s));rw[g]
inductive FrX (m:Nat):List CX->List Bk->Prop where
 |nil:FrX m [] []
 |q {cs:List CX} {fs:List Bk} {f:Bk}:f.isQuote->f.ob.e=m->FrX m cs fs->FrX m (.q::cs) (f::fs)
 |i {cs:List CX} {fs:List Bk} {f g:Bk} {lb w:Nat} {bul num:Int} {it:OA}:f.isList lb bul num it->ItemOf it g lb w true->1<=w/\w<100->g.ob.e=m->FrX m cs fs->FrX m (.i w::cs) (f::g::fs)
inductive FrS:List CX->List Bk->Prop where
 |nil:FrS [] []
 |q {cs:List CX} {fs:List Bk} {f:Bk}:f.isQuote->FrS cs fs->FrS (.q::cs) (f::fs)
 |i {cs:List CX} {fs:List Bk} {f g:Bk} {lb w:Nat} {bul num:Int} {it:OA}:f.isList lb bul num it->ItemOf it g lb w true->1<=w/\w<100->FrS cs fs->FrS (.i w::cs) (f::g::fs)
theorem FrX.toS {m:Nat}{a:List CX}{fs:List Bk}(h:FrX m a fs):FrS a fs:=by
 induction h with
 |nil=>exact .nil
 |q x _ _ g=>exact .q x g
 |i x E z _ _ g=>exact .i x E z g
theorem FrS.len {a:List CX}{fs:List Bk}(h:FrS a fs):a.length<=fs.length/\fs.length<=2*a.length:=by
 induction h with
 |nil=>simp
 |q x _ g=>simp;omega
 |i x E z _ g=>simp;omega
theorem FrS.split {b:List CX}: ∀ {a:List CX} {fs:List Bk},FrS (a++b) fs-> ∃gs g,fs=gs++g/\FrS a gs/\FrS b g
 | [],fs,h=>⟨[],fs,rfl,.nil,h⟩
 |c::a,fs,h=>by
  cases h with
  |q x H=>
   obtain⟨gs,g,rfl,E,I⟩:=FrS.split H;exact⟨_::gs,g,rfl,.q x E,I⟩
  |i x O z H=>
   obtain⟨gs,g,rfl,E,I⟩:=FrS.split H;exact⟨_::_::gs,g,rfl,.i x O z E,I⟩
theorem FrS.append {a b:List CX}{fs gs:List Bk}(h:FrS a fs)(E:FrS b gs):FrS (a++b) (fs++gs):=by
 induction h with
 |nil=>exact E
 |q x _ g=>exact .q x g
 |i x H z _ g=>exact .i x H z g
theorem FrX.append {m:Nat}{a b:List CX}{fs gs:List Bk}(h:FrX m a fs)(H:FrX m b gs):FrX m (a++b) (fs++gs):=by
 induction h with
 |nil=>exact H
 |q x E _ g=>exact .q x E g
 |i x E z v _ g=>exact .i x E z v g
theorem FrX.len {m:Nat}{a:List CX}{fs:List Bk}(h:FrX m a fs):a.length<=fs.length/\fs.length<=2*a.length:=by
 induction h with
 |nil=>simp
 |q x E _ g=>simp;omega
 |i x E z v _ g=>simp;omega
def Bk.setE (f:Bk)(m:Nat):Bk:= {f with ob:=f.ob.setE m}
theorem Bk.setE_sim (f:Bk){m:Nat}(g:m<1000000000):f.sim (f.setE m):=⟨⟨m,rfl⟩,rfl,rfl,rfl,g⟩
theorem u5 {X:OA->Nat->WP}(c5: ∀W b3 w,aj.bl1 R X W b3 w->X W b3 w){b b1:Nat}{p:PS}{gs rest:List Bk}{f:Bk}{lf:Leaf}{l l2:Ln}(h:DocC σ b (l.at b1::L) (gs++f::rest) lf p w)(hd:p.depth+1=gs.length)(d2:0<gs.length/\gs.length<1000000)(d0:l.ok)(hb:l.blank=false)(b5:p.lineno<1000000000)(c3: ∀(I:Ending->World->Prop) K w,(∀y∈gs++f::rest,∀c∈y.own,c∈K)->Sat σ w K->(∀w,Sat σ w K->I (hQ (.tuple #[l2.val,hV true])) w)->cW P (callMethod f.ob.bd "pub-paratext/pub/rscmarkdown.extend" #[kT (kE b),l.val]) I w)
 (b6: ∀w,DocC σ b (l2.at b1::L) (gs++f.setE p.lineno::rest) lf {p with depth:=(gs.length:Nat)} w->X (kE b) b1 w):X (kE b) b1 w:=by
 obtain⟨M,a7,H,b4,hs,ht,O,c9,h⟩:=h;have b7: ∀y∈gs++f::rest,∀c∈y.own,c∈aM (gs++f::rest):=by
  intro y E c hc;unfold aM;exact lU2.2 ⟨y,E,by unfold Bk.mem;simp[hc]⟩
 have b8:p.depth=((gs.length - 1:Nat):Int):=by omega
 have b9:((gs++f::rest).map Bk.ob++H)[gs.length - 1+1]? =some f.ob:=by
  rw[show gs.length - 1+1=gs.length by omega,lM0 (by simp),lF2];simp
 have h:Sat σ w (l.at b1::(p.at b::M++(a7++(aM (gs++f::rest)++(b4++L))))):=h.re
 refine Cc (l2:=l2) c5 h hs b8 (by omega) b9 d0 hb (λI b0 w h c4=>?_) λw c2 V h=>?_
 ·exact c3 I _ w (λy E c hc=>by simp[b7 y E c hc]) h c4
 ·have c1:((gs++f::rest).map Bk.ob++H).set (gs.length - 1+1) (f.ob.setE p.lineno)=(gs++f.setE p.lineno::rest).map Bk.ob++H:=by
   rw[show gs.length - 1+1=gs.length by omega,lU4 _ _ (by simp),lV0,lO1 _ _ (by simp),lS0,lV1];simp[Bk.setE]
  have a6:((gs.length - 1:Nat):Int)+1=(gs.length:Nat):=by omega
  rw[c1,a6] at V;rw[a6] at h;have U:Sims (gs++f::rest) (gs++f.setE p.lineno::rest):=Sims.append (Sims.refl λy E=>(O y (by simp[E])).2.2.2) (.cons (f.setE_sim b5) (Sims.refl λy E=>(O y (by simp[E])).2.2.2))
  obtain⟨c8,d1⟩:=U.mem;refine b6 w ⟨c2,a7,H,b4,V,?_,U.ok O,c9,?_⟩
  ·rw[d1];exact ht.of rfl rfl rfl
  ·rw[c8];exact h.re

theorem vk (w:Nat)(s:List UInt8):(hN w 32++s).all cL=s.all cL:=by
 rw[lC5];have:(hN w (32:UInt8)).all cL=true:=by
  rw[lD2];intro c hc;rw[List.eq_of_mem_replicate hc];rfl
 rw[this,lO5]
theorem tZ {p:PS}{k:Int}(h:k=p.depth):({p with depth:=k}:PS)=p:=by rw[h]
theorem FY {X:OA->Nat->WP}(b7: ∀c4 d0 w,aj.bl1 R X c4 d0 w->X c4 d0 w){b b1:Nat}{s:List UInt8}{lf:Leaf}{rest:List Bk}:
 ∀(cs:List CX) (gs fs:List Bk) (p:PS) (l:Ln) (w:World),FrS cs fs->DocC σ b (l.at b1::L) (gs++(fs++rest)) lf p w->p.depth+1=gs.length->0<gs.length/\gs.length+2*cs.length<1000000->LnR l (ctx cs s)->
  (∀a c I,cs=a++c::I->(ctx (c::I) s).all cL=false)->p.lineno<1000000000->
  (∀w y l2,Sims fs y->FrX p.lineno cs y->LnR l2 s->l2.text=l.text->DocC σ b (l2.at b1::L) (gs++(y++rest)) lf {p with depth:=((gs.length+fs.length:Nat):Int) - 1} w->X (kE b) b1 w)->X (kE b) b1 w:=by
 intro cs
 induction cs with
 |nil=>
  intro gs fs p l w b5 h hd d1 E W H a6;cases b5
  refine a6 w [] l .nil .nil E rfl ?_;rw[tZ (by simp;omega)];exact h
 |cons c cs c8=>
  intro gs fs p l w b5 h hd d1 E W H a6;have hb:l.blank=false:=by
   have:=W [] c cs rfl;unfold Ln.blank;rw[E.tx];exact this
  have b9: ∀a b3 I,cs=a++b3::I->(ctx (b3::I) s).all cL=false:=λa b3 I e=>W (c::a) b3 I (by rw[e];rfl)
  simp only[lF0] at d1;cases b5 with
  | @q _ y f hq hF'=>
   have E:LnR l (62::32::ctx cs s):=E
   obtain⟨b6,O⟩:=E.quote;obtain⟨e3,c9,e4⟩:=hq;refine u5 (l2:= {l with i:=l.i+2}) (rest:=y++rest) b7 (by simpa using h) hd ⟨by omega,by omega⟩ E.ok hb H (λc3 K w _ h V=>?_) λw h=>?_
   ·rw[c9];refine bm mh ?_;exact rP h E.ok (by rw[b6];exact⟨rfl,rfl⟩) V
   ·have h:DocC σ b (({l with i:=l.i+2}:Ln).at b1::L) ((gs++ [f.setE p.lineno])++(y++rest)) lf {p with depth:=(gs.length:Nat)} w:=by simpa using h
    refine c8 (gs++ [f.setE p.lineno]) y _ _ w hF' h (by simp) (by simp;omega) O b9 H λw b4 l2 k1 k2 k3 k4 h=>?_
    refine a6 w (f.setE p.lineno::b4) l2 (.cons (f.setE_sim H) k1) (.q ((f.setE_sim H).quote ⟨e3,c9,e4⟩) rfl k2) k3 k4 ?_;have e:(((gs++ [f.setE p.lineno]).length+y.length:Nat):Int) - 1=((gs.length+(f::y).length:Nat):Int) - 1:=by simp;omega
    rw[e] at h
    simpa using h
  | @i _ y f g lb wd bul num it hf hg' hw hF'=>
   have e6:=E;have U:=W [] (.i wd) cs rfl;have e2:ctx cs s≠ []:=by
    intro e5;have:(ctx (.i wd::cs) s)= []:=by show (CX.i wd).pre (ctx cs s)= [];rw[e5];rfl
    rw[this] at U;cases U
   have e0:ctx (.i wd::cs) s=hN wd 32++ctx cs s:=by
    show (if ctx cs s= [] then [] else hN wd 32++ctx cs s)=_
    rw[if_neg e2]
   rw[e0] at E U;rw[vk] at U;obtain⟨b6,O⟩:=E.pad;obtain⟨ib,c5,c2,b8⟩:=hg';obtain⟨d3,d2⟩:=hf;refine u5 (l2:= {l with i:=l.i+wd}) (rest:=g::(y++rest)) b7 (by simpa using h) hd ⟨by omega,by omega⟩ E.ok hb H (λc3 K w a7 h V=>?_) λw h=>?_
   ·rw[d3];refine bm gj ?_;refine lx (ib:=ib) (lb:=lb) (n:=wd) (hv:=true) (bul:=bul) (num:=num) (lo:=false) (td:= .nilFunc) h E.ok (by omega) ?_ ?_ (by rw[b6];exact⟨rfl,rfl⟩) V
    ·rw[<-c5];exact a7 f (by simp) _ (by rw[d2];exact .head _)
    ·exact a7 g (by simp) _ (by rw[b8];exact .head _)
   have c1:({l with i:=l.i+wd}:Ln).blank=false:=by unfold Ln.blank;rw[O.tx];exact U
   have h:DocC σ b (({l with i:=l.i+wd}:Ln).at b1::L) ((gs++ [f.setE p.lineno])++g::(y++rest)) lf {p with depth:=(gs.length:Nat)} w:=by simpa using h
   refine u5 (l2:= {l with i:=l.i+wd}) (rest:=y++rest) b7 h (by simp) ⟨by simp,by simp;omega⟩ O.ok c1 H (λc3 K w a7 h V=>?_) λw h=>?_
   ·rw[c2];refine bm ka ?_;exact ww h O.ok c1 (a7 g (by simp) _ (by rw[b8];exact .head _)) V
   have h:DocC σ b (({l with i:=l.i+wd}:Ln).at b1::L) ((gs++ [f.setE p.lineno,g.setE p.lineno])++(y++rest)) lf {p with depth:=((gs++ [f.setE p.lineno]).length:Nat)} w:=by simpa using h
   refine c8 (gs++ [f.setE p.lineno,g.setE p.lineno]) y _ _ w hF' h (by simp;omega) (by simp;omega) O b9 H λw b4 l2 k1 k2 k3 k4 h=>?_
   refine a6 w (f.setE p.lineno::g.setE p.lineno::b4) l2 (.cons (f.setE_sim H) (.cons (g.setE_sim H) k1)) (.i ((f.setE_sim H).list ⟨d3,d2⟩) ((g.setE_sim H).itemOf ⟨ib,c5,c2,b8⟩) hw rfl k2) k3 k4 ?_;have e:(((gs++ [f.setE p.lineno,g.setE p.lineno]).length+y.length:Nat):Int) - 1=((gs.length+(f::g::y).length:Nat):Int) - 1:=by simp;omega
   rw[e] at h
   simpa using h
theorem rz {X:OA->Nat->WP}(b8: ∀O V w,aj.bl1 R X O V w->X O V w){b b1:Nat}{p:PS}{gs rest:List Bk}{f:Bk}{lf:Leaf}{l l2:Ln}(h:DocC σ b (l.at b1::L) (gs++f::rest) lf p w)(hd:p.depth+1=gs.length)(c4:0<gs.length/\gs.length<1000000)(c3:l.ok)(hb:l.blank=true)(b6: ∀(E:Ending->World->Prop) K w,(∀y∈gs++f::rest,∀c∈y.own,c∈K)->Sat σ w K->(∀w,Sat σ w K->E (hQ (.tuple #[l2.val,hV true])) w)->cW P (callMethod f.ob.bd "pub-paratext/pub/rscmarkdown.extend" #[kT (kE b),l.val]) E w)
 (a6: ∀w,DocC σ b (l2.at b1::L) (gs++f::rest) lf {p with depth:=(gs.length:Nat)} w->X (kE b) b1 w):X (kE b) b1 w:=by
 obtain⟨M,U,I,W,hs,ht,b3,c1,h⟩:=h;have a7: ∀y∈gs++f::rest,∀c∈y.own,c∈aM (gs++f::rest):=by
  intro y H c hc;unfold aM;exact lU2.2 ⟨y,H,by unfold Bk.mem;simp[hc]⟩
 have b4:p.depth=((gs.length - 1:Nat):Int):=by omega
 have b5:((gs++f::rest).map Bk.ob++I)[gs.length - 1+1]? =some f.ob:=by
  rw[show gs.length - 1+1=gs.length by omega,lM0 (by simp),lF2];simp
 have h:Sat σ w (l.at b1::(p.at b::M++(U++(aM (gs++f::rest)++(W++L))))):=h.re
 refine u4 (l2:=l2) (ok:=true) b8 h hs b4 (by omega) b5 c3 (λE b0 w h b7=>?_) (.inl hb) (λ_ w h=>?_) (λc2=>absurd c2 (by decide))
 ·exact b6 E _ w (λy H c hc=>by simp[a7 y H c hc]) h b7
 ·have b9:((gs.length - 1:Nat):Int)+1=(gs.length:Nat):=by omega
  rw[b9] at h;exact a6 w ⟨M,U,I,W,hs.of rfl rfl rfl,ht.of rfl rfl rfl,b3,c1,h.re⟩
theorem walkB {X:OA->Nat->WP}(W: ∀b3 a7 w,aj.bl1 R X b3 a7 w->X b3 a7 w){b b1:Nat}{lf:Leaf}{rest:List Bk}:
 ∀(cs:List CX) (gs fs:List Bk) (p:PS) (l:Ln) (w:World),FrS cs fs->(∀c∈cs,c≠ .q)->DocC σ b (l.at b1::L) (gs++(fs++rest)) lf p w->p.depth+1=gs.length->0<gs.length/\gs.length+2*cs.length<1000000->LnR l []->
  (∀w l2,LnR l2 []->DocC σ b (l2.at b1::L) (gs++(fs++rest)) lf {p with depth:=((gs.length+fs.length:Nat):Int) - 1} w->X (kE b) b1 w)->X (kE b) b1 w:=by
 intro cs
 induction cs with
 |nil=>
  intro gs fs p l w O H h hd V y I;cases O
  refine I w l y ?_;rw[tZ (by simp;omega)];exact h
 |cons c cs b7=>
  intro gs fs p l w O H h hd V y I;have hb:l.blank=true:=by unfold Ln.blank;rw[y.tx];rfl
  simp only[lF0] at V;cases O with
  |q _ _=>exact absurd rfl (H .q (.head _))
  | @i _ fs' f g lb wd bul num it hf hg' hw hF'=>
   obtain⟨ib,b5,b8,a6⟩:=hg';obtain⟨b6,b4⟩:=hf;refine rz (l2:=l) (rest:=g::(fs'++rest)) W (by simpa using h) hd ⟨by omega,by omega⟩ y.ok hb (λb9 K w E h U=>?_) λw h=>?_
   ·rw[b6];refine bm gj ?_;refine lx (ib:=ib) (lb:=lb) (n:=wd) (hv:=true) (bul:=bul) (num:=num) (lo:=false) (td:= .nilFunc) h y.ok (by omega) ?_ ?_ (by rw[y.padEnd];exact⟨rfl,rfl⟩) U
    ·rw[<-b5];exact E f (by simp) _ (by rw[b4];exact .head _)
    ·exact E g (by simp) _ (by rw[a6];exact .head _)
   have h:DocC σ b (l.at b1::L) ((gs++ [f])++g::(fs'++rest)) lf {p with depth:=(gs.length:Nat)} w:=by simpa using h
   refine rz (l2:=Ln.zero) (rest:=fs'++rest) W h (by simp) ⟨by simp,by simp;omega⟩ y.ok hb (λb9 K w E h U=>?_) λw h=>?_
   ·rw[b8];refine bm ka ?_;exact pm h y.ok hb (E g (by simp) _ (by rw[a6];exact .head _)) U
   have h:DocC σ b (Ln.zero.at b1::L) ((gs++ [f,g])++(fs'++rest)) lf {p with depth:=((gs++ [f]).length:Nat)} w:=by simpa using h
   refine b7 (gs++ [f,g]) fs' _ _ w hF' (λc hc=>H c (.tail _ hc)) h (by simp;omega) (by simp;omega) ⟨⟨by decide,by decide,by decide,by decide⟩,rfl,rfl⟩ λw l2 k3 h=>?_
   refine I w l2 k3 ?_;have e:(((gs++ [f,g]).length+fs'.length:Nat):Int) - 1=((gs.length+(f::g::fs').length:Nat):Int) - 1:=by simp;omega
   rw[e] at h
   simpa using h

def oH (s:Nat)(ls:List (List UInt8)):Leaf:= .other λob M=> ∃g e,ob= [jM g s e]/\q9 g ls M/\s<1000000000/\ls≠ []/\ls.length<1048570
theorem ua {b s:Nat}{gs:List Bk}{par:Bk}{p:PS}{ls:List (List UInt8)}(h:DocC σ b L (gs++ [par]) (oH s ls) p w)(d0:Leaf.finN (.para ls))(e1:par.D.length<99999)(e0:(txF (gs++ [par])).length<100000)(c8: ∀w (p':PS) H nb t x,p'.base=p.base->p'.depth=p.depth->p'.lineno=p.lineno->H.like par->H.D=par.D++ [j9 nb t s (s+ls.length - 1) (bv [10] ls)]->s<1000000000->ls.length<1048570->DocC σ b L (gs++ [H]) .none p' w->R (hQ x) w):
 callE P aJ #[kT (kE b)] R w:=by
 obtain⟨M,c9,d2,d1,hs,ht,a6,⟨a7,e,rfl,c5,W,c2,b9⟩,h⟩:=h;obtain⟨c3,b8,b6⟩:=d0;have hs:Stk p (gs.map Bk.ob++ [par.ob]++ [jM a7 s e]) M:=by simpa using hs
 obtain⟨V,b5⟩:=a6 par (by simp);have d3:par.ob.n=par.D.length:=by have:=V.1;simp at this;omega
 rw[bh,dy] at h;have h:Sat σ w (p.at b::M++(par.IM++(c9++(d1++(aM gs++(par.own++(cV par.D++(txc par.D++L)))))))):=h.re
 refine wV (ob:=gs.map Bk.ob) (par:=par.ob) (o:=jM a7 s e) h hs rfl V (by omega) ht (by simp;omega) c5 c2 (by omega) rfl c3 b8 b6 (by exact W) λw p' U E I t nb b4 b3 x O b7 c4 c1 h=>?_
 refine c8 w p' ⟨{par.ob with q:=b4,n:=par.ob.n+1,c:=b3},par.own,par.D++ [j9 nb t s (s+ls.length - 1) (bv [10] ls)],E⟩ nb t x (by rw[O];rfl) (by rw[O]) (by rw[O]) ⟨rfl,rfl,rfl,rfl⟩ rfl W b9 ?_;refine⟨U,I,[],[],?_,?_,?_,⟨rfl,rfl⟩,?_⟩
 ·rw[lV0,lG0];exact b7
 ·have e:txF (gs++ [⟨{par.ob with q:=b4,n:=par.ob.n+1,c:=b3},par.own,par.D++ [j9 nb t s (s+ls.length - 1) (bv [10] ls)],E⟩])=txF (gs++ [par])++ [⟨t,s,s+ls.length - 1,bv [10] ls⟩]:=by
   rw[bE,bE,dH,dH,jy,lD0];rfl
  rw[e,lV0];exact c4
 ·intro g y;rcases lO0.1 y with y|y
  ·exact a6 g (by simp[y])
  ·obtain rfl:=lR0.1 y;exact⟨by rw[lV0];exact c1,by simp;omega,b5.2⟩
 ·rw[bh,dy,lu,nB];have h:Sat σ w (p'.at b::U++(E++(I++(kV nb s (s+ls.length - 1) t::fp t s (s+ls.length - 1) none 0 0 (bv [10] ls)::(aM gs++(par.own++(cV par.D++(txc par.D++L)))))))):=h
  show Sat σ w (p'.at b::U++(I++(aM gs++(E++(par.own++((cV par.D++ [kV nb s (s+ls.length - 1) t])++(txc par.D++ [fp t s (s+ls.length - 1) none 0 0 (bv [10] ls)]))))++([]++L))))
  exact h.re
def IN.tgt:IN->IN
 | .mk h ks=>if h.kind=6 then .mk {h with tight:=true} ks else .mk h ks
def vu (d:DB):Nat × Nat:=
 match d.own with
 |(_,.cells cs _)::_=>match cs.toList with
  | .int _ a:: .int _ e::_=>(a.toNat,e.toNat)
  |_=>(0,0)
 |_=>(0,0)
structure TD (G:List UInt8->List Inl) (op:Opt) (d:DB) (x:IN):Prop where
 tree:d.tree G x
 treeT:(dt d).tree G x.tgt
 kind:d.kindOK
 pos:d.posIs x.h.s x.h.e/\vu d=(x.h.s,x.h.e)/\x.h.s<1000000000/\x.h.e<2000000000
 txs: ∀t∈d.txs,js none [] op t.raw (G t.raw)
inductive TDs (G:List UInt8->List Inl) (op:Opt):List DB->List IN->Prop where
 |nil:TDs G op [] []
 |cons {d:DB} {x:IN} {D:List DB} {xs:List IN}:TD G op d x->TDs G op D xs->TDs G op (d::D) (x::xs)
theorem TDs.append {D y:List DB}{xs g:List IN}(H:TDs G op D xs)(I:TDs G op y g):TDs G op (D++y) (xs++g):=by
 induction H with
 |nil=>exact I
 |cons h _ O=>exact .cons h O
theorem TDs.trees {D:List DB}{xs:List IN}(h:TDs G op D xs):oS G D xs:=by
 induction h with
 |nil=>exact .nil
 |cons h _ g=>exact .cons h.tree g
theorem TDs.treesT {D:List DB}{xs:List IN}(h:TDs G op D xs):oS G (D.map dt) (xs.map IN.tgt):=by
 induction h with
 |nil=>exact .nil
 |cons h _ g=>exact .cons h.treeT g
theorem TDs.len {D:List DB}{xs:List IN}(h:TDs G op D xs):xs.length=D.length:=by
 induction h with
 |nil=>rfl
 |cons h _ g=>simp[g]
theorem TDs.txs {D:List DB}{xs:List IN}(h:TDs G op D xs): ∀t∈cj D,js none [] op t.raw (G t.raw):=by
 induction h with
 |nil=>intro t ht;simp[cj] at ht
 | @cons d x D xs h _ ih=>
  intro t ht;have e:cj (d::D)=d.txs++cj D:=by simp[cj]
  rw[e] at ht;rcases lO0.1 ht with ht|ht
  ·exact h.txs t ht
  ·exact ih t ht
theorem TDs.facts {D:List DB}{xs:List IN}(h:TDs G op D xs): ∀d∈D,d.kindOK/\d.posIs (vu d).1 (vu d).2/\(vu d).1<1000000000/\(vu d).2<2000000000:=by
 induction h with
 |nil=>intro d hd;cases hd
 | @cons d x D xs h _ ih=>
  intro e g;rcases lX0.1 g with rfl|g
  ·obtain⟨a1,a2,a3,a4⟩:=h.pos;rw[a2];exact⟨h.kind,a1,a3,a4⟩
  ·exact ih e g
def Gp:List IN->Bool
 |x::y::ys=>decide (x.h.e+1<y.h.s)||Gp (y::ys)
 |_=>false
def B7:List IN->Bool
 |x::y::ys=>decide (x.h.e+1<y.h.s)||(Gp x.kids||B7 (y::ys))
 | [x]=>Gp x.kids
 | []=>false
theorem TDs.gap {D:List DB}{xs:List IN}(h:TDs G op D xs):CV vu D=Gp xs:=by
 induction h with
 |nil=>rfl
 | @cons d x D xs h h2 ih=>
  cases h2 with
  |nil=>rfl
  | @cons d2 x2 D2 xs2 k k2=>
   unfold CV Gp;rw[ih,h.pos.2.1,k.pos.2.1]
inductive ItR (G:List UInt8->List Inl) (op:Opt):List IT->List IN->Prop where
 |nil:ItR G op [] []
 |cons {i:IT} {xs:List IN} {is:List IT} {ys:List IN}:i.ok->TDs G op i.D xs->ItR G op is ys->ItR G op (i::is) (.mk {kind:=4,width:=i.wd,s:=i.s,e:=i.e} xs::ys)
theorem ItR.append {a b:List IT}{xs g:List IN}(H:ItR G op a xs)(y:ItR G op b g):ItR G op (a++b) (xs++g):=by
 induction H with
 |nil=>exact y
 |cons h k _ E=>exact .cons h k E
theorem ItR.gap {y:List IT}{g:List IN}(h:ItR G op y g):l9 vu y=B7 g:=by
 induction h with
 |nil=>rfl
 | @cons i xs y g h k h2 ih=>
  cases h2 with
  |nil=>unfold l9 B7;exact k.gap
  | @cons i2 xs2 is2 ys2 h' k' h2'=>
   unfold l9 B7;rw[ih,k.gap];rfl
theorem ItR.facts {y:List IT}{E:List IN}(h:ItR G op y E): ∀i∈y,i.ok/\ ∀d∈i.D,d.kindOK/\d.posIs (vu d).1 (vu d).2/\(vu d).1<1000000000/\(vu d).2<2000000000:=by
 induction h with
 |nil=>intro d hd;cases hd
 |cons h k _ H=>
  intro e g;rcases lX0.1 g with rfl|g
  ·exact⟨h,k.facts⟩
  ·exact H e g
theorem ItR.txs {g:List IT}{y:List IN}(h:ItR G op g y): ∀t∈cj (g.map IT.db),js none [] op t.raw (G t.raw):=by
 induction h with
 |nil=>intro t ht;simp[cj] at ht
 | @cons i xs g y h k _ ih=>
  intro t ht;have e:cj ((i::g).map IT.db)=cj i.D++cj (g.map IT.db):=by simp[cj,IT.db]
  rw[e] at ht;rcases lO0.1 ht with ht|ht
  ·exact k.txs t ht
  ·exact ih t ht
theorem ItR.trees {y:List IT}{g:List IN}(h:ItR G op y g):oS G (y.map IT.db) g:=by
 induction h with
 |nil=>exact .nil
 |cons h k _ E=>exact .cons (wu h k.trees) E
def IN.tgtI:IN->IN
 | .mk h ks=> .mk h (ks.map IN.tgt)
theorem ItR.treesT {y g:List IT}(hr:Ret y g): ∀ {E:List IN},ItR G op y E->oS G (g.map IT.db) (E.map IN.tgtI)/\(∀t∈cj (g.map IT.db),t∈cj (y.map IT.db)):=by
 induction hr with
 |nil=>intro E h;cases h;exact⟨.nil,λt h=>h⟩
 | @cons i i' y g h1 h2 h3 ih=>
  intro E h;cases h with
  | @cons _ xs _ ys' k1 k2 k3=>
   obtain⟨t1,O⟩:=ih k3;have I:i'.D=i.D.map dt:=by rw[h1]
   have ht:=wu (G:=G) h2 (xs:=xs.map IN.tgt) (by rw[I];exact k2.treesT)
   have H:i'.wd=i.wd/\i'.s=i.s/\i'.e=i.e:=by rw[h1];exact⟨rfl,rfl,rfl⟩
   rw[H.1,H.2.1,H.2.2] at ht;refine⟨.cons ht t1,λt ht=>?_⟩;have V:cj ((i'::g).map IT.db)=cj i'.D++cj (g.map IT.db):=by simp[cj,IT.db]
   have U:cj ((i::y).map IT.db)=cj i.D++cj (y.map IT.db):=by simp[cj,IT.db]
   have ec:cj i'.D=cj i.D:=by rw[I];exact(p6 λd hd=>(k2.facts d hd).1).2
   rw[V,ec] at ht;rw[U];rcases lO0.1 ht with ht|ht
   ·exact lE1 _ ht
   ·exact lB0 _ (O t ht)
def zS (s:Nat)(bul:UInt8)(num:Int)(its:List IN):IN:=
 .mk {kind:=3,num:=if bul=46\/bul=41 then num else -1,char:= [bul],loose:=B7 its,s:=s,e:=(its.getLast?.map λx=>x.h.e).getD 0} (if B7 its then its else its.map IN.tgtI)
theorem ET {nb E s e:Nat}{raw:List UInt8}(hs:s<1000000000)(I:e<2000000000)(g:lP (G raw))(H:js none [] op raw (G raw)):TD G op (j9 nb E s e raw) (.mk {kind:=6,s:=s,e:=e} (gO (G raw))):=by
 refine⟨Bj g,A0 g,.inl ⟨_,_,_,_,_,rfl⟩,⟨jQ o9 rfl (.head _),?_,hs,I⟩,λx y=>?_⟩
 ·show ((s:Int).toNat,(e:Int).toNat)=(s,e)
  simp
 ·obtain rfl:=lR0.1 y;exact H
theorem yR {nb s e:Nat}{q:OA}{n c:Nat}{IM:List ai}{D:List DB}{xs:List IN}(g:Sl 1 aO q n c (D.map DB.v) IM)(y:n<1000000)(hs:s<1000000000/\e<2000000000)(h:TDs G op D xs):TD G op (nU nb s e q n c IM D) (.mk {kind:=2,s:=s,e:=e} xs):=by
 have ht:(nU nb s e q n c IM D).tree G (.mk {kind:=2,s:=s,e:=e} xs):=zH (nb:=nb) (s:=s) (e:=e) g (by omega) h.trees
 refine⟨ht,?_,.inr ⟨_,_,rfl,by decide⟩,⟨jQ vT rfl (.head _),?_,hs⟩,h.txs⟩
 ·rw[d6 (d:=nU nb s e q n c IM D) rfl (by decide)];exact ht
 ·show ((s:Int).toNat,(e:Int).toNat)=(s,e)
  simp
theorem ItR.last {y:List IT}{g:List IN}(h:ItR G op y g):g.getLast?.map (λx=>x.h.e)=y.getLast?.map IT.e:=by
 induction h with
 |nil=>rfl
 | @cons i xs y g h k h2 ih=>
  cases h2 with
  |nil=>rfl
  |cons I H E=>rw[lV2,lV2];exact ih
theorem A2 {nb s e:Nat}{bul:UInt8}{num:Int}{q:OA}{n c:Nat}{IM:List ai}{items y:List IT}{g:List IN}(W:Utf8.encode (bul.toNat:Int)=bs [bul])(a6:Sl 1 aO q n c (items.map IT.v) IM)(b3:n<1000000)(hs:s<1000000000/\e<2000000000)(h:ItR G op items g)(ht:Tgh (l9 vu items) items y)(a7:items.getLast?.map IT.e=some e):TD G op (p7 nb s e (bul.toNat:Int) num (l9 vu items) q n c IM y) (zS s bul num g):=by
 have O:(g.getLast?.map λx=>x.h.e).getD 0=e:=by rw[h.last,a7];rfl
 have U:y.map IT.v=items.map IT.v:=by
  rcases ht with ⟨_,rfl⟩|⟨_,hr⟩
  ·rfl
  ·exact hr.vs
 have I:oS G (y.map IT.db) (if B7 g then g else g.map IN.tgtI)/\ ∀t∈cj (y.map IT.db),t∈cj (items.map IT.db):=by
  rw[h.gap] at ht;rcases ht with ⟨H,rfl⟩|⟨H,hr⟩
  ·rw[H];exact⟨h.trees,λt h=>h⟩
  ·rw[H];exact ItR.treesT hr h
 have E:=Bz (nb:=nb) (s:=s) (e:=e) (num:=num) (lo:=l9 vu items) W (items:=y) (by rw[U];exact a6) (by omega) I.1
 rw[h.gap] at E;have V:zS s bul num g= .mk {kind:=3,num:=if bul=46\/bul=41 then num else -1,char:= [bul],loose:=B7 g,s:=s,e:=e} (if B7 g then g else g.map IN.tgtI):=by
  unfold zS;rw[O]
 rw[h.gap,V];refine⟨E,?_,.inr ⟨_,_,rfl,by decide⟩,⟨jQ yW rfl (.head _),?_,hs⟩,λt ht=>h.txs t (I.2 t ht)⟩
 ·rw[d6 (d:=p7 nb s e (bul.toNat:Int) num (B7 g) q n c IM y) rfl (by decide)];exact E
 ·show ((s:Int).toNat,(e:Int).toNat)=(s,e)
  simp

structure xd (G:List UInt8->List Inl) (op:Opt) (ls:List (List UInt8)):Prop where
 fin:Leaf.finN (.para ls)
 inl:js none [] op (bv [10] ls) (G (bv [10] ls))
 tame:lP (G (bv [10] ls))
inductive Pd (G:List UInt8->List Inl) (op:Opt):List IN->List Bk->Leaf->Prop where
 |none:Pd G op [] [] .none
 |para {s:Nat} {ls:List (List UInt8)}:xd G op ls->Pd G op [.mk {kind:=6,s:=s,e:=s+ls.length - 1} (gO (G (bv [10] ls)))] [] (oH s ls)
 |quote {f:Bk} {junk:List Bk} {lf:Leaf} {xs ys:List IN}:f.isQuote->TDs G op f.D xs->Pd G op ys junk lf->Pd G op [.mk {kind:=2,s:=f.ob.s,e:=f.ob.e} (xs++ys)] (f::junk) lf
 |list {f g:Bk} {junk:List Bk} {lf:Leaf} {lb wd:Nat} {bul:UInt8} {num:Int} {it:OA} {items:List IT} {ixs xs ys:List IN}:f.isList lb bul.toNat num it->f.D=items.map IT.db->ItR G op items ixs->ItemOf it g lb wd true->1<=wd/\wd<100->Utf8.encode (bul.toNat:Int)=bs [bul]->TDs G op g.D xs->Pd G op ys junk lf->
  Pd G op [zS f.ob.s bul num (ixs++ [.mk {kind:=4,width:=wd,s:=g.ob.s,e:=g.ob.e} (xs++ys)])] (f::g::junk) lf
def vq (G:List UInt8->List Inl)(op:Opt)(xs:List IN)(junk:List Bk)(lf:Leaf):Prop:=
 ∀(σ:Out) (R:Ending->World->Prop) (L:List ai) (b pb:Nat) (p:PS) (w:World) (X:OA->Int->WP) (gs:List Bk) (top:Bk) (k:Nat),(∀E H w,aG.bl1 R X E H w->X E H w)->op.at pb∈L->p.pz=kE pb->k<=gs.length+1->
  (∀I∈gs++top::junk,I.D.length<=90000)->(txF (gs++top::junk)).length<=90000->DocC σ b L (gs++top::junk) lf p w->
  (∀w (p':PS) y l,p'.base=p.base->p'.depth=p.depth->p'.lineno=p.lineno->y.like top->y.D=top.D++l->TDs G op l xs->(cj l).length<=(txF junk).length+1->DocC σ b L (gs++ [y]) .none p' w->X (kE b) (k:Int) w)->X (kE b) (k:Int) w
theorem Bk.like.refl (f:Bk):f.like f:=⟨rfl,rfl,rfl,rfl⟩
theorem Bk.like.quote {f g:Bk}(h:g.like f)(E:f.isQuote):g.isQuote:=by
 obtain⟨y,I,H⟩:=E;exact⟨y,h.1.trans I,h.2.2.2.trans H⟩
theorem Bk.like.itemOf {f g:Bk}{lb wd:Nat}{it:OA}{hv:Bool}(h:g.like f)(y:ItemOf it f lb wd hv):ItemOf it g lb wd hv:=by
 obtain⟨ib,E,H,I⟩:=y;exact⟨ib,E,h.1.trans H,h.2.2.2.trans I⟩
theorem de (a b:List DB):cj (a++b)=cj a++cj b:=by simp[cj]
theorem zA {X:OA->Int->WP}{b k s:Nat}{fs:List Bk}{ls:List (List UInt8)}{p:PS}(O: ∀E y w,aG.bl1 R X E y w->X E y w)(h:DocC σ b L fs (oH s ls) p w)(a7:k<=fs.length)(hc:callE P aJ #[kT (kE b)] (λe I=> ∃(H:Value),e= hQ H/\X (kE b) (k:Int) I) w):X (kE b) (k:Int) w:=by
 obtain⟨M,b3,U,a6,hs,ht,V,⟨W,e,rfl,b4⟩,h⟩:=h;have g:=hs.2.1;rw[lA0,lS0] at g;refine O _ _ _ (aa ?_);refine⟨_,_,_,h.ldA,?_⟩;rw[g];exact ag (by simp;omega) hc
theorem Pd.close (f6:op.task=false){xs:List IN}{junk:List Bk}{lf:Leaf}(h:Pd G op xs junk lf):vq G op xs junk lf:=by
 induction h with
 |none=>
  intro σ R L b pb p w X gs top k O b4 a7 d2 H W h a6;exact a6 w p top [] rfl rfl rfl (.refl top) (by simp) .nil (by simp[cj]) h
 | @para s ls hp=>
  intro σ R L b pb p w X gs top k O b4 a7 d2 H W h a6;have f4:=H top (by simp);have g3:k<=(gs++ [top]).length:=by rw[lA0];simp;omega
  refine zA O h g3 ?_;refine ua h hp.fin (by omega) (by omega) λw p' b5 nb t x b1 b2 b6 U V g5 h7 h=>⟨_,rfl,?_⟩
  have hb:s+ls.length - 1<2000000000:=by omega
  exact a6 w p' b5 _ b1 b2 b6 U V (.cons (ET g5 hb hp.tame hp.inl) .nil) (by simp[cj,j9]) h
 | @quote f junk lf xs ys hq hxs hys ih=>
  intro σ R L b pb p w X gs top k O b4 a7 d2 H W h a6;have e0:gs++top::f::junk=(gs++ [top])++f::junk:=by simp
  rw[e0] at H W h;have f4:=H top (by simp);refine ih σ R L b pb p w X (gs++ [top]) f k O b4 a7 (by simp;omega) H W h λw p' y l b1 b2 b6 U V c8 g6 h=>?_
  have h:DocC σ b L (gs++ [top,y]) .none p' w:=by simpa using h
  have I:y.ok:=by obtain⟨_,_,_,_,_,_,c9,_⟩:=h;exact c9 y (by simp)
  have e8:y.ob.n<1000000:=by have:=I.1.1;have:=I.2.1;simp at*;omega
  refine oY O h (by simp;omega) ?_;refine yA h (U.quote hq) (by omega) λw b5 nb x ht b9 h=>⟨_,rfl,?_⟩
  refine a6 w {p' with stn:=gs.length+1} b5 _ b1 b2 b6 ht b9 ?_ ?_ h
  rotate_left
  ·have b7:cj [nU nb y.ob.s y.ob.e y.ob.q y.ob.n y.ob.c y.IM y.D]=cj f.D++cj l:=by rw[<-de,<-V];simp[cj,nU]
   have d1:txF (f::junk)=cj f.D++txF junk:=by simp[txF]
   rw[b7,d1,lA0,lA0];omega
  have:=yR (nb:=nb) (s:=y.ob.s) (e:=y.ob.e) I.1 e8 ⟨I.2.2.1,by have:=I.2.2.2;omega⟩ (by rw[V];exact hxs.append c8)
  rw[U.2.1,U.2.2.1] at this⊢;exact .cons this .nil
 | @list f g junk lf lb wd bul num it items ixs xs ys hf hfD hit hg hwd hu hxs hys ih=>
  intro σ R L b pb p w X gs top k O b4 a7 d2 H W h a6;have e0:gs++top::f::g::junk=(gs++ [top,f])++g::junk:=by simp
  rw[e0] at H W h;have f4:=H top (by simp);have h8:=H f (by simp);refine ih σ R L b pb p w X (gs++ [top,f]) g k O b4 a7 (by simp;omega) H W h λw p' E l b1 b2 b6 U V c8 g6 h=>?_
  have h:DocC σ b L (gs++ [top]++ [f,E]) .none p' w:=by simpa using h
  refine oY O h (by simp;omega) ?_;refine ub h (U.itemOf hg).item hf (by omega) λw y nb x g2 f2 h9 b9 f1 h=>⟨_,rfl,?_⟩
  generalize d0:IT.mk nb E.ob.s E.ob.e E.ob.q E.ob.n E.ob.c wd E.IM E.D=ii at b9 f1;have b8:ItR G op (items++ [ii]) (ixs++ [.mk {kind:=4,width:=wd,s:=g.ob.s,e:=g.ob.e} (xs++ys)]):=by
   refine hit.append ?_;have:=ItR.cons (G:=G) (op:=op) (i:=ii) (xs:=xs++ys) f1 (by rw[<-d0];show TDs G op E.D (xs++ys);rw[V];exact hxs.append c8) .nil
   rw[<-d0] at this⊢;have e9:(IT.mk nb E.ob.s E.ob.e E.ob.q E.ob.n E.ob.c wd E.IM E.D).s=g.ob.s:=U.2.1;have b7:(IT.mk nb E.ob.s E.ob.e E.ob.q E.ob.n E.ob.c wd E.IM E.D).e=g.ob.e:=U.2.2.1;rw[e9,b7] at this;exact this
  have h:DocC σ b L (gs++ [top,y]) .none {p' with stn:=(gs++ [top]).length+1} w:=by simpa using h
  have I:y.ok:=by obtain⟨_,_,_,_,_,_,c9,_⟩:=h;exact c9 y (by simp)
  have f0:y.D=(items++ [ii]).map IT.db:=by rw[b9,hfD];simp
  have e8:y.ob.n<1000000:=by have:=I.1.1;have:=I.2.1;simp at*;omega
  refine oY O h (by simp;omega) ?_;refine Ai (op:=op) (pb:=pb) (items:=items++ [ii]) (pos:=vu) h g2 f0 (by simp) b8.facts (by rw[<-a7];exact oQ b1) b4 f6 (by omega) λw p2 b5 g0 e9 c5 x h2 h1 h6 i1 ht f3 f5 g1 h=>⟨_,rfl,?_⟩
  refine a6 w p2 b5 _ (h2.trans b1) (h1.trans b2) (h6.trans b6) ht g1 (.cons ?_ .nil) ?_ h
  rotate_left
  ·have b7:cj [p7 g0 y.ob.s e9 bul.toNat num (l9 vu (items++ [ii])) y.ob.q y.ob.n y.ob.c y.IM c5]=cj (c5.map IT.db):=by simp[cj,p7]
   have h3:(cj (c5.map IT.db))=cj ((items++ [ii]).map IT.db):=by
    rcases f3 with ⟨_,rfl⟩|⟨_,hr⟩
    ·rfl
    ·exact(hr.facts λi hi d hd=>((b8.facts i hi).2 d hd).1).1
   have h5:cj ii.D=cj g.D++cj l:=by rw[<-d0,<-de,<-V]
   have h0:cj ((items++ [ii]).map IT.db)=cj f.D++(cj g.D++cj l):=by rw[lV0,de,<-hfD,<-h5];simp[cj,IT.db]
   have d1:txF (f::g::junk)=cj f.D++(cj g.D++txF junk):=by simp[txF]
   rw[b7,h3,h0,d1];simp only[lA0];omega
  have d3:=I.1;rw[f0] at d3;have g7:((items++ [ii]).map IT.db).map DB.v=(items++ [ii]).map IT.v:=by simp[Function.comp_def,IT.db]
  rw[g7] at d3;rw[f2];refine A2 hu d3 e8 ⟨f2▸I.2.2.1,?_⟩ b8 f3 f5.2;obtain⟨h4,g4,rfl⟩:=f5.1;have:=(b8.facts h4 g4).1.se.2;omega
theorem Ek {xs:List IN}{junk:List Bk}{lf:Leaf}{b pb:Nat}{p:PS}{gs:List Bk}{top:Bk}(b5:vq G op xs junk lf)(a6:op.at pb∈L)(U:p.pz=kE pb)(c1: ∀g∈gs++top::junk,g.D.length<=90000)(b9:(txF (gs++top::junk)).length<=90000)(h:DocC σ b L (gs++top::junk) lf p w)(b7: ∀w (p':PS) y l,p'.base=p.base->p'.depth=p.depth->p'.lineno=p.lineno->y.like top->y.D=top.D++l->TDs G op l xs->(cj l).length<=(txF junk).length+1->DocC σ b L (gs++ [y]) .none p' w->R (hQ (.tuple #[])) w):
 callE P bj #[kT (kE b),hY ((gs.length+1:Nat):Int)] R w:=by
 refine aG.sound ?_;have H:=h;obtain⟨M,b8,O,c2,hs,ht,a7,c4,h⟩:=h;have E:=hs.2.1;simp only[lA0,lS0,lF0] at E;refine aa ?_;refine⟨_,_,_,h.ldA,?_⟩;rw[E];refine ae (by simp;omega) ?_;intro X I;refine b5 σ R L b pb p w X gs top (gs.length+1) I a6 U (lZ0 _) c1 b9 H λw p' y l b1 b2 b6 c3 W V b4 h=>?_
 have H:=h;obtain⟨M,b8,O,c2,hs,ht,a7,⟨rfl,rfl⟩,h⟩:=h;have E:=hs.2.1;simp only[lA0,lS0,lF0,lM1,lN1] at E;refine I _ _ _ (aa ?_);refine⟨_,_,_,h.ldA,?_⟩;rw[E];exact ae (by simp) (b7 w p' y l b1 b2 b6 c3 W V b4 H)
theorem DocC.drop {b:Nat}{c:ai}{fs:List Bk}{lf:Leaf}{p:PS}(h:DocC σ b (c::L) fs lf p w):DocC σ b L fs lf p w:=by
 obtain⟨M,H,g,E,hs,ht,y,I,h⟩:=h;exact⟨M,H,g,E,hs,ht,y,I,h.less [c]⟩
theorem ve {xs:List IN}{junk:List Bk}{lf:Leaf}{b b1 pb:Nat}{p:PS}{gs:List Bk}{top:Bk}{l:Ln}(b6:vq G op xs junk lf)(a7:op.at pb∈L)(O:p.pz=kE pb)(c3: ∀g∈gs++top::junk,g.D.length<=90000)(c2:(txF (gs++top::junk)).length<=90000)(h:DocC σ b (l.at b1::L) (gs++top::junk) lf p w)(hd:p.depth=gs.length)(c5:gs.length<1000000)(c4:l.ok)(hb:l.blank=true)(b9: ∀w (p':PS) y l,p'.base=p.base->p'.lineno=p.lineno->y.like top->y.D=top.D++l->TDs G op l xs->(cj l).length<=(txF junk).length+1->DocC σ b L (gs++ [y]) .none p' w->R (hQ (.tuple #[])) w):
 aj.k2 R (kE b) b1 w:=by
 unfold aj.k2;obtain⟨M,E,I,H,hs,ht,b4,c1,h⟩:=h;have h:Sat σ w (l.at b1::p.at b::(M++(E++(aM (gs++top::junk)++(H++L))))):=h.re
 refine dC h (.head _) c4 λw h=>⟨_,rfl,?_⟩
 rw[hb];refine ag rfl (aa ⟨_,Sat.ld h (.tail _ (.head _)) (i:=5) rfl,?_⟩);have e:i64.wrap (p.depth+1)=((gs.length+1:Nat):Int):=by rw[hd,i64_in _ (by omega)];omega
 rw[e];refine Ek (L:=l.at b1::L) (pb:=pb) b6 (.tail _ a7) O c3 c2 ⟨M,E,I,H,hs,ht,b4,c1,h.re⟩ λw p' y b8 U b2 b7 a6 W V b5 h=>⟨rfl,?_⟩
 exact b9 w p' y b8 U b7 a6 W V b5 h.drop

theorem Pd.len {xs:List IN}{junk:List Bk}{lf:Leaf}(h:Pd G op xs junk lf):xs.length<=1:=by
 cases h<;>simp
theorem LnR.quoteNo {l:Ln}(h:LnR l []):l.quote=none:=by
 have y:=h.lenNil;have E:=h.sp;have g:l.text[l.i]? =none:=lS1 y;unfold Ln.quote Ln.lead Ln.trimSp Ln.tsGo;rw[if_neg (by omega),if_neg (by simp),if_neg (by rw[g];simp),if_neg (by rw[g];simp),if_pos (lC2 _)];simp[Ln.trimC,g]
theorem EZ {X:OA->Nat->WP}(b8: ∀O V w,aj.bl1 R X O V w->X O V w){b b1:Nat}{p:PS}{gs rest:List Bk}{f:Bk}{lf:Leaf}{l:Ln}(h:DocC σ b (l.at b1::L) (gs++f::rest) lf p w)(hd:p.depth+1=gs.length)(c3:0<gs.length/\gs.length<1000000)(c2:l.ok)(b6: ∀(E:Ending->World->Prop) K w,(∀y∈gs++f::rest,∀c∈y.own,c∈K)->Sat σ w K->(∀w,Sat σ w K->E (hQ (.tuple #[l.val,hV false])) w)->cW P (callMethod f.ob.bd "pub-paratext/pub/rscmarkdown.extend" #[kT (kE b),l.val]) E w)
 (a6: ∀w,DocC σ b (l.at b1::L) (gs++f::rest) lf p w->aj.k2 R (kE b) b1 w):X (kE b) b1 w:=by
 obtain⟨M,U,I,W,hs,ht,b3,b9,h⟩:=h;have a7: ∀y∈gs++f::rest,∀c∈y.own,c∈aM (gs++f::rest):=by
  intro y H c hc;unfold aM;exact lU2.2 ⟨y,H,by unfold Bk.mem;simp[hc]⟩
 have b4:p.depth=((gs.length - 1:Nat):Int):=by omega
 have b5:((gs++f::rest).map Bk.ob++I)[gs.length - 1+1]? =some f.ob:=by
  rw[show gs.length - 1+1=gs.length by omega,lM0 (by simp),lF2];simp
 have h:Sat σ w (l.at b1::(p.at b::M++(U++(aM (gs++f::rest)++(W++L))))):=h.re
 refine u4 (l2:=l) (ok:=false) b8 h hs b4 (by omega) b5 c2 (λE b0 w h b7=>?_) (.inr ⟨rfl,rfl⟩) (λc1=>absurd c1 (by decide)) (λ_ w h=>?_)
 ·exact b6 E _ w (λy H c hc=>by simp[a7 y H c hc]) h b7
 ·exact a6 w ⟨M,U,I,W,hs,ht,b3,b9,h.re⟩
theorem E0 {X:OA->Nat->WP}(b4: ∀y I w,aj.bl1 R X y I w->X y I w){b b1 s:Nat}{p:PS}{gs:List Bk}{ls:List (List UInt8)}{l:Ln}(h:DocC σ b (l.at b1::L) gs (oH s ls) p w)(hd:p.depth+1=gs.length)(b9:0<gs.length/\gs.length<1000000)(b6:l.ok)(U: ∀w,DocC σ b (l.at b1::L) gs (oH s ls) p w->aj.k2 R (kE b) b1 w):X (kE b) b1 w:=by
 obtain⟨M,E,b7,O,hs,ht,V,H,h⟩:=h;have a7:=H;obtain⟨g,e,rfl,b8⟩:=H;have W:p.depth=((gs.length - 1:Nat):Int):=by omega
 have a6:(gs.map Bk.ob++ [jM g s e])[gs.length - 1+1]? =some (jM g s e):=by
  rw[show gs.length - 1+1=gs.length by omega];simp
 have h:Sat σ w (l.at b1::(p.at b::M++(E++(aM gs++(O++L))))):=h.re
 refine u4 (l2:=l) (ok:=false) b4 h hs W (by omega) a6 b6 (λc1 b0 w h b3=>?_) (.inr ⟨rfl,rfl⟩) (λb5=>absurd b5 (by decide)) (λ_ w h=>?_)
 ·refine bm sa ?_;exact uD h b3
 ·exact U w ⟨M,E,_,O,hs,ht,V,a7,h.re⟩
theorem endX {X:OA->Nat->WP}(U: ∀H E w,aj.bl1 R X H E w->X H E w){b b1:Nat}{p:PS}{gs:List Bk}{l:Ln}(h:DocC σ b (l.at b1::L) gs .none p w)(hd:p.depth+1=gs.length)(W:0<gs.length/\gs.length<1000000)(O: ∀w,DocC σ b (l.at b1::L) gs .none p w->aj.k2 R (kE b) b1 w):X (kE b) b1 w:=by
 obtain⟨M,g,V,a6,hs,ht,I,⟨rfl,rfl⟩,h⟩:=h;have y:=hs.2.1;simp only[lG0,lS0] at y;refine U _ _ _ ?_;have h:Sat σ w (l.at b1::p.at b::(M++(g++(aM gs++([]++L))))):=h.re
 refine Sat.tk h λw h=>aa (aa ?_)
 refine⟨_,Sat.ld h (.tail _ (.head _)) (i:=5) rfl,_,_,_,Sat.ld h (.tail _ (.head _)) (i:=4) rfl,?_⟩;rw[i64_in _ (by omega),y];refine ae (by simp;omega) ?_;exact O w ⟨M,g,[],[],hs,ht,I,⟨rfl,rfl⟩,h.re⟩
theorem Do (e3:op.task=false){X:OA->Nat->WP}(d1: ∀f5 g1 w,aj.bl1 R X f5 g1 w->X f5 g1 w){b b1 pb:Nat}(e5:op.at pb∈L){xs:List IN}{junk:List Bk}{lf:Leaf}(g2:Pd G op xs junk lf):
 ∀(gs:List Bk) (top:Bk) (p:PS) (l:Ln) (w:World),p.pz=kE pb->gs.length+junk.length<900000->(∀H∈gs++top::junk,H.D.length<=90000)->(txF (gs++top::junk)).length<=90000->DocC σ b (l.at b1::L) (gs++top::junk) lf p w->p.depth=gs.length->LnR l []->
  (∀w (p':PS) I l O d2 pend,p'.base=p.base->p'.lineno=p.lineno->I.like top->I.D=top.D++l->TDs G op l d2->Pd G op pend O .none->d2++pend=xs->(O.length<=junk.length/\ ∀N,(∀H∈junk,H.D.length<=N)-> ∀H∈O,H.D.length<=N+1)->(txF (I::O)).length<=(txF (top::junk)).length+1->
   (O= []\/ ∃f rest lb num it,∃bul:UInt8,O=f::rest/\f.isList lb bul.toNat num it/\ ∃x,xs= [x]/\x.h.char= [bul])->DocC σ b L (gs++I::O) .none p' w->R (hQ (.tuple #[])) w)->X (kE b) b1 w:=by
 have e6: ∀(top I:Bk) (l:List DB) (junk:List Bk),I.D=top.D++l->(cj l).length<=(txF junk).length+1->(txF [I]).length<=(txF (top::junk)).length+1:=by
  intro top I l junk f6 h9;have g7:txF (top::junk)=cj top.D++txF junk:=by simp[txF]
  rw[dH,f6,de,g7];simp only[lA0];omega
 have e9:=g2
 induction g2 with
 |none=>
  intro gs top p l w b4 d3 a6 W h hd E b7;refine endX d1 h (by simp;omega) ⟨by simp,by simp;omega⟩ λw h=>?_
  refine ve (Pd.close e3 (.none:Pd G op [] [] .none)) e5 b4 a6 W h hd (by omega) E.ok (by unfold Ln.blank;rw[E.tx];rfl) λw p' I b8 b6 b5 V U b3 c6 h=>?_
  exact b7 w p' I b8 [] [] [] b6 b5 V U b3 .none rfl ⟨lC2 _,λN _ H a7=>by cases a7⟩ (e6 _ _ _ _ U c6) (.inl rfl) h
 | @para s ls hp=>
  intro gs top p l w b4 d3 a6 W h hd E b7;refine E0 d1 h (by simp;omega) ⟨by simp,by simp;omega⟩ E.ok λw h=>?_
  refine ve (Pd.close e3 e9) e5 b4 a6 W h hd (by omega) E.ok (by unfold Ln.blank;rw[E.tx];rfl) λw p' I b8 b6 b5 V U b3 c6 h=>?_
  exact b7 w p' I b8 [] _ [] b6 b5 V U b3 .none (by simp) ⟨lC2 _,λN _ H a7=>by cases a7⟩ (e6 _ _ _ _ U c6) (.inl rfl) h
 | @quote f junk lf xs ys hq hxs hys ih=>
  intro gs top p l w b4 d3 a6 W h hd E b7;obtain⟨j0,h7,k0⟩:=hq;have h:DocC σ b (l.at b1::L) ((gs++ [top])++f::junk) lf p w:=by simpa using h
  refine EZ d1 h (by simp;omega) ⟨by simp,by simp;omega⟩ E.ok (λf3 K w _ h d0=>?_) λw h=>?_
  ·rw[h7];refine bm mh ?_;exact rP h E.ok (by rw[E.quoteNo];exact⟨rfl,rfl⟩) d0
  have h:DocC σ b (l.at b1::L) (gs++top::f::junk) lf p w:=by simpa using h
  refine ve (Pd.close e3 e9) e5 b4 a6 W h hd (by omega) E.ok (by unfold Ln.blank;rw[E.tx];rfl) λw p' I b8 b6 b5 V U b3 c6 h=>?_
  exact b7 w p' I b8 [] _ [] b6 b5 V U b3 .none (by simp) ⟨lC2 _,λN _ H a7=>by cases a7⟩ (e6 _ _ _ _ U c6) (.inl rfl) h
 | @list f H junk lf lb wd bul num it items ixs xs ys hf hfD hit a7 hwd hu hxs hys ih=>
  intro gs top p l w b4 d3 a6 W h hd E b7;simp only[lF0] at d3;have g3:=a7;have e8:=hf;obtain⟨ib,h6,h5,g0⟩:=a7;obtain⟨i0,h8⟩:=hf;have hb:l.blank=true:=by unfold Ln.blank;rw[E.tx];rfl
  have h:DocC σ b (l.at b1::L) ((gs++ [top])++f::H::junk) lf p w:=by simpa using h
  refine rz (l2:=l) d1 h (by simp;omega) ⟨by simp,by simp;omega⟩ E.ok hb (λf3 K w e0 h d0=>?_) λw h=>?_
  ·rw[i0];refine bm gj ?_;refine lx (ib:=ib) (lb:=lb) (n:=wd) (hv:=true) (bul:=bul.toNat) (num:=num) (lo:=false) (td:= .nilFunc) h E.ok (by omega) ?_ ?_ (by rw[E.padEnd];exact⟨rfl,rfl⟩) d0
   ·rw[<-h6];exact e0 f (by simp) _ (by rw[h8];exact .head _)
   ·exact e0 H (by simp) _ (by rw[g0];exact .head _)
  have h:DocC σ b (l.at b1::L) ((gs++ [top,f])++H::junk) lf {p with depth:=((gs++ [top]).length:Nat)} w:=by simpa using h
  refine rz (l2:=Ln.zero) d1 h (by simp;omega) ⟨by simp,by simp;omega⟩ E.ok hb (λf3 K w e0 h d0=>?_) λw h=>?_
  ·rw[h5];refine bm ka ?_;exact pm h E.ok hb (e0 H (by simp) _ (by rw[g0];exact .head _)) d0
  have h0:gs++top::f::H::junk=(gs++ [top,f])++H::junk:=by simp
  rw[h0] at a6 W;refine ih hys (gs++ [top,f]) H {p with depth:=((gs++ [top,f]).length:Nat)} Ln.zero w b4 (by simp;omega) a6 W h rfl ⟨⟨by decide,by decide,by decide,by decide⟩,rfl,rfl⟩ λw p' e2 b8 O d2 pend b6 b5 V U b3 c6 c7 f0 l5 i8 h=>?_
  have h:DocC σ b L (gs++top::f::e2::O) .none p' w:=by simpa using h
  have g4:Pd G op [zS f.ob.s bul num (ixs++ [.mk {kind:=4,width:=wd,s:=H.ob.s,e:=H.ob.e} (xs++ys)])] (f::e2::O) .none:=by
   have:=Pd.list (G:=G) (op:=op) (xs:=xs++d2) e8 hfD hit (V.itemOf g3) hwd hu (by rw[U];exact hxs.append b3) c6
   rw[lD0,c7,V.2.1,V.2.2.1] at this;exact this
  refine b7 w p' top [] (f::e2::O) [] _ b6 b5 (.refl top) (by simp) .nil g4 rfl ⟨by have:=f0.1;simp;omega,λN e7 x b9=>?_⟩ ?_ (.inr ⟨f,e2::O,lb,num,it,bul,rfl,e8,_,rfl,rfl⟩) h
  ·rcases lX0.1 b9 with rfl|b9
   ·have:=e7 x (by simp);omega
   rcases lX0.1 b9 with rfl|b9
   ·have f6:=e7 H (by simp);have h9:=b3.len;have j1:=hys.len;have g6:=congrArg List.length c7;rw[U];simp only[lA0] at g6⊢;omega
   ·exact f0.2 N (λy g5=>e7 y (by simp[g5])) x b9
  ·have f4: ∀(u:Bk) J,txF (top::f::u::J)=cj top.D++(cj f.D++txF (u::J)):=by intro u J;simp[txF]
   rw[f4,f4];simp only[lA0];omega

theorem pH {xs:List IN}{junk:List Bk}{lf:Leaf}{b pb H:Nat}{cs:List Value}{E:TypeId}{p:PS}{gs:List Bk}{top:Bk}{t:TypeId}{v:Value}(c2:vq G op xs junk lf)(b9:op.at pb∈L)(b7:p.pz=kE pb)(d2: ∀V∈gs++top::junk,V.D.length<=90000)(d1:(txF (gs++top::junk)).length<=90000)(h:DocC σ b ((H,cel cs E)::L) (gs++top::junk) lf p w)(hd:p.depth=gs.length)(e1:gs.length<900000)(W:p.lineno<1000000000)(c5: ∀w (p':PS) y l f,p'.base=p.base->p'.lineno=p.lineno->p'.depth=p.depth->y.like top->y.D=top.D++l->TDs G op l xs->(cj l).length<=(txF junk).length+1->f.ob=⟨.iface t v,none,0,0,p.lineno,p.lineno⟩->f.own= [(H,cel cs E)]->f.D= []->f.IM= []->
  DocC σ b L (gs++ [y,f]) .none p' w->R (hQ (.tuple #[])) w):
 callE P bQ #[kT (kE b),.iface t v] R w:=by
 obtain⟨M,b4,b6,b5,hs,ht,c1,d0,h⟩:=h;have h:Sat σ w (p.at b::(M++(b4++(aM (gs++top::junk)++(b5++((H,cel cs E)::L)))))):=h
 refine qZ h (by omega) λw h=>?_
 have e:p.depth+1=((gs.length+1:Nat):Int):=by omega
 rw[e];refine Ek (L:=(H,cel cs E)::L) (pb:=pb) c2 (.tail _ b9) b7 d2 d1 ⟨M,b4,b6,b5,hs,ht,c1,d0,h⟩ λw c4 y c3 c9 c8 b3 k1 k2 k3 k4 h=>?_
 obtain⟨d3,U,e0,e2,a6,k5,k6,⟨rfl,rfl⟩,h⟩:=h;rw[lG0] at a6;refine⟨rfl,c4,(gs++ [y]).map Bk.ob,d3,U++(aM (gs++ [y])++((H,cel cs E)::L)),a6,by simp;omega,h,λw p' a7 I b8 h=>?_⟩
 ·refine c5 w p' y c3 ⟨⟨.iface t v,none,0,0,p.lineno,p.lineno⟩,[(H,cel cs E)],[],[]⟩ (by rw[I,<-c9];rfl) (by rw[I,<-b3]) (by rw[I,<-c8]) k1 k2 k3 k4 rfl rfl rfl rfl ?_;have e:gs++ [y,(⟨⟨.iface t v,none,0,0,p.lineno,p.lineno⟩,[(H,cel cs E)],[],[]⟩:Bk)]=(gs++ [y])++ [⟨⟨.iface t v,none,0,0,p.lineno,p.lineno⟩,[(H,cel cs E)],[],[]⟩]:=by simp
  rw[e];refine⟨a7,U,[],[],?_,?_,?_,⟨rfl,rfl⟩,?_⟩
  ·rw[lV0,lG0,<-b3];exact b8
  ·rw[bE,dH]
   show Txts _ ((txF (gs++ [y])++ []).map TX.t) U
   rw[lG0];exact k5.of (by rw[I]) (by rw[I]) (by rw[I])
  ·intro V O;rcases lO0.1 O with O|O
   ·exact k6 V O
   ·obtain rfl:=lR0.1 O;exact⟨Sl.nil 1 aO,by simp,W,W⟩
  ·rw[bh (gs++ [y]),dy]
   show Sat σ w (p'.at b::a7++(U++(aM (gs++ [y])++([]++([(H,cel cs E)]++([]++ [])))++([]++L))))
   exact h.re

def Bk.np (f:Bk):Prop:= ∃t v,f.ob.bd= .iface t v/\t≠ar
def Bk.box_ (f:Bk):Prop:= ∃t v,f.ob.bd= .iface t v/\t≠ar/\t≠az
theorem Bk.box_.np {f:Bk}(h:f.box_):f.np:=by obtain⟨t,v,y,g,_⟩:=h;exact⟨t,v,y,g⟩
theorem Bk.isQuote.box_ {f:Bk}(h:f.isQuote):f.box_:=by obtain⟨y,g,_⟩:=h;exact⟨_,_,g,by decide,by decide⟩
theorem ItemOf.box_ {f:Bk}{it:OA}{lb wd:Nat}{hv:Bool}(h:ItemOf it f lb wd hv):f.box_:=by obtain⟨ib,_,g,_⟩:=h;exact⟨_,_,g,by decide,by decide⟩
theorem Bk.isListT.np {f:Bk}{it:OA}{lb:Nat}{bul num:Int}{td:Value}(h:f.isListT lb bul num it td):f.np:=⟨_,_,h.1,by decide⟩
theorem Pd.next {xs:List IN}{junk:List Bk}{lf:Leaf}(h:Pd G op xs junk lf): ∀f rest,junk=f::rest->f.np:=by
 cases h with
 |none=>intro f rest h;cases h
 |para _=>intro f rest h;cases h
 |quote a _ _=>intro f rest h;cases h;exact a.box_.np
 |list a _ _ _ _ _ _ _=>intro f rest h;cases h;exact a.np
theorem Pd.last {xs:List IN}{junk:List Bk}{lf:Leaf}(h:Pd G op xs junk lf):lf= .none-> ∀(pre:List Bk) (f:Bk),f.np-> ∃H o t v,(pre++f::junk).map Bk.ob=H++ [o]/\o.bd= .iface t v/\t≠ar:=by
 induction h with
 |none=>intro _ pre f U;obtain⟨t,v,y,E⟩:=U;exact⟨pre.map Bk.ob,f.ob,t,v,by simp,y,E⟩
 |para _=>intro h;cases h
 | @quote f junk lf xs ys a _ _ ih=>
  intro I pre O V;obtain⟨H,o,t,v,y,E⟩:=ih I (pre++ [O]) f a.box_.np;exact⟨H,o,t,v,by rw[<-y];simp,E⟩
 | @list f O junk lf lb wd bul num it items ixs xs ys a _ _ b _ _ _ _ ih=>
  intro I pre k W;obtain⟨H,o,t,v,y,E⟩:=ih I (pre++ [k,f]) O b.box_.np;exact⟨H,o,t,v,by rw[<-y];simp,E⟩
theorem nC {b:Nat}{p:PS}{gs junk:List Bk}{top:Bk}{M:List ai}{l:Ln}(hs:Stk p ((gs++top::junk).map Bk.ob) M)(hd:p.depth=gs.length)(b4:gs.length<900000)(ht:top.np)(O: ∀f rest,junk=f::rest->f.np)(I: ∃g o t v,(gs++top::junk).map Bk.ob=g++ [o]/\o.bd= .iface t v/\t≠ar)(y:l.ok):AD b p M l cg:=by
 intro σ w L R h E;obtain⟨t,v,t1,W⟩:=ht;cases junk with
 |nil=>
  exact kD (d:=gs.length) (ob:=gs.map Bk.ob) (o:=top.ob) h (by simpa using hs) hd (by simp) t1 W y E
 |cons f rest=>
  obtain⟨g,o,b6,b5,H,a7,V⟩:=I;obtain⟨b8,b7,b3,U⟩:=O f rest rfl;rw[H] at hs;refine kF (d:=gs.length) (ob:=g) (o:=o) (o1:=f.ob) h hs hd (by omega) ?_ b3 U a7 (λa6=>absurd a6 V) y E;rw[<-H];simp
theorem DJ {b:Nat}{p:PS}{gs junk:List Bk}{top:Bk}{M:List ai}{l:Ln}(hs:Stk p ((gs++top::junk).map Bk.ob) M)(hd:p.depth=gs.length)(V:gs.length<900000)(ht:top.box_)(W: ∀f rest,junk=f::rest->f.np)(H: ∃E o t v,(gs++top::junk).map Bk.ob=E++ [o]/\o.bd= .iface t v/\t≠ar)(I:l.cont): ∀f∈newsF,AD b p M l f:=by
 intro f O;have g:=I.plain;have U:=nC (b:=b) (l:=l) hs hd V ht.np W H g.ok
 obtain⟨t,v,t1,b7,a7⟩:=ht;obtain⟨E,o,b8,b6,b3,b5,a6⟩:=H;simp only[newsF,lX0,lJ1,or_false] at O;intro σ w L R h y;rcases O with rfl|rfl|rfl|rfl|rfl|rfl|rfl|rfl
 ·exact ip (x:= .nilIface) h g.ok g.quote y
 ·exact lw h g.ok g.heading y
 ·exact U σ w L R h y
 ·exact rx h g.ok g.hr y
 ·exact g.bullet b gs.length p _ top.ob M t v hs hd (by simp) t1 a7 σ w L R h y
 ·exact nE h g.ok I.lt y
 ·exact rY h g.ok g.fence y
 ·rw[b3] at hs;exact we (ob:=E) h hs (o:=o) b5 (λb4=>absurd b4 a6) g.ok g.pre y
theorem DocC.toLeaf {b:Nat}{gs:List Bk}{f:Bk}{p:PS}{A:List OB->List ai->Prop}(h:DocC σ b L (gs++ [f]) .none p w)(y:f.D= [])(U:f.IM= [])(O:A [f.ob] f.own):DocC σ b L gs (.other A) p w:=by
 obtain⟨M,E,W,a6,hs,ht,H,⟨rfl,rfl⟩,h⟩:=h;refine⟨M,E,[f.ob],f.own,by simpa using hs,?_,λV I=>H V (by simp[I]),O,?_⟩
 ·have:txF (gs++ [f])=txF gs:=by rw[bE,dH,y];simp[cj]
  rw[this] at ht;exact ht
 ·rw[bh,dy,y,U] at h;have h:Sat σ w (p.at b::M++(E++((aM gs++([]++(f.own++([]++ []))))++([]++L)))):=h
  exact h.re
theorem vR (c8:op.task=false){g5:OA->Nat->WP}{b b1 pb:Nat}{xs:List IN}{gs junk:List Bk}{top:Bk}{p:PS}{l:Ln}(W:Pd G op xs junk .none)(h:DocC σ b (l.at b1::L) (gs++top::junk) .none p w)(hd:p.depth=gs.length)(b6:gs.length<900000)(ht:top.box_)(c4:l.cont)(g3: ∀g∈gs++top::junk,g.D.length<=90000)(g2:(txF (gs++top::junk)).length<=90000)(b5:p.pz=kE pb)(b7:op.at pb∈L)(c1:p.lineno<1000000000)(e7: ∀w (p':PS) y U,p'.base=p.base->p'.lineno=p.lineno->y.like top->y.D=top.D++U->TDs G op U xs->(cj U).length<=(txF junk).length+1->DocC σ b L (gs++ [y]) (oH p.lineno [l.rest]) p' w->R (hQ (.tuple #[])) w):
 aj.bl102 R g5 (kE b) b1 w:=by
 obtain⟨M,H,h3,h7,hs,d2,e0,⟨rfl,rfl⟩,h⟩:=h;rw[lG0] at hs;have h:Sat σ w (p.at b::M++(l.at b1::(H++(aM (gs++top::junk)++L)))):=h.re
 have a6:=W.last rfl gs top ht.np;refine ud h (DJ hs hd b6 ht W.next a6 c4) λw nb e e9 h e6=>?_
 obtain⟨h1,o,h8,h5,e8,f6,c3⟩:=a6;have d3:Stk p (h1++ [o]) M:=by rw[<-e8];exact hs
 refine dX.sound ?_;refine Sat.bx h λI w h=>?_
 refine Sat.bx h λE w h=>?_
 have h:Sat σ _ (zLn E::l.at I::(p.at b::M++(l.at b1::(nb,cel newsC e)::(H++(aM (gs++top::junk)++L))))):=h
 have h:Sat σ _ (p.at b::M++(zLn E::l.at I::(l.at b1::(nb,cel newsC e)::(H++(aM (gs++top::junk)++L))))):=h.re
 refine qy h d3 f6 (λw h=>?_) (λhc=>absurd hc c3);rw[if_neg c3];refine⟨_,rfl,?_⟩
 repeat (first|refine aa ?_|refine h.tk λw h=>?_|refine⟨_,h.ldA,?_⟩|refine⟨_,_,_,h.ldA,?_⟩)
 have h:Sat σ _ (l.at I::(p.at b::M++(zLn E::(l.at b1::(nb,cel newsC e)::(H++(aM (gs++top::junk)++L)))))):=h.re
 refine kA h (.head _) c4.plain.ok λw h=>⟨_,rfl,?_⟩
 refine⟨_,w,jd kw _ _ _ w,ae rfl (ae rfl ?_)⟩;have h:Sat σ _ (p.at b::(l.at I::(M++(zLn E::(l.at b1::(nb,cel newsC e)::(H++(aM (gs++top::junk)++L))))))):=h.re
 refine Sat.tk h λw h=>?_
 refine aa ?_;refine⟨_,Sat.ld h (.head _) rfl,?_⟩;rw[b5];refine aa ?_;have g6:op.at pb∈(p.at b::(l.at I::(M++(zLn E::(l.at b1::(nb,cel newsC e)::(H++(aM (gs++top::junk)++L))))))):=by simp[b7]
 refine⟨op.table,Sat.ld h g6 rfl,?_⟩;have fin:dX.k4 (λe w=>e9 e w) (kE b) E none (bs l.rest) false w:=by
  refine ae rfl ⟨_,w,jd kw _ _ _ w,ae rfl ?_⟩;refine Sat.bx h λO w h=>?_
  have h:Sat σ _ ((O,cel [hT none 0 0,kT none] aL)::p.at b::(l.at I::(M++(zLn E::(l.at b1::(nb,cel newsC e)::(H++(aM (gs++top::junk)++L))))))):=h
  have c9:DocC σ b ((O,cel [hT none 0 0,kT none] aL)::(zLn E::L)) (gs++top::junk) .none p w:=⟨M,H,[],[],by rw[lG0];exact hs,d2,e0,⟨rfl,rfl⟩,h.less [l.at I,l.at b1,(nb,cel newsC e)]⟩
  refine pH (pb:=pb) (W.close c8) (.tail _ b7) b5 g3 g2 c9 hd b6 c1 λw p' y U f g0 e4 h6 k1 k2 k3 k4 g7 g4 c2 f0 h=>⟨rfl,?_⟩
  have h:=h;obtain⟨c5,b8,h2,h4,b9,a7,d0,⟨rfl,rfl⟩,h⟩:=h;have f5:aM (gs++ [y,f])=aM (gs++ [y])++ [(O,cel [hT none 0 0,kT none] aL)]:=by
   rw[show gs++ [y,f]=(gs++ [y])++ [f] by simp,bh,dy,g4,c2,f0];simp[cV,txc,cj]
  rw[f5] at h;have h:Sat σ w (zLn E:: [(O,cel [hT none 0 0,kT none] aL)]++(p'.at b::c5++(b8++(aM (gs++ [y])++L)))):=h.re
  refine rS h (ts:= []) ⟨none,0,[],Sl.nil 1 aq,rfl⟩ (by decide) λw h0 d1 h=>?_
  refine e6 w true ?_;refine e7 w p' y U g0 e4 k1 k2 k3 k4 ⟨c5,b8,[f.ob],h0,?_,?_,λg V=>d0 g (by simp at V⊢;rcases V with V|V<;>simp[V]),⟨O,p.lineno,by rw[g7];rfl,d1,c1,by simp,by simp⟩,h.re⟩
  ·have g1:(gs++ [y,f]).map Bk.ob++ []=(gs++ [y]).map Bk.ob++ [f.ob]:=by simp
   rw[g1] at b9;exact b9
  ·have:txF (gs++ [y,f])=txF (gs++ [y]):=by rw[show gs++ [y,f]=(gs++ [y])++ [f] by simp,bE,dH,c2];simp[cj]
   rw[this] at a7;exact a7
 refine bJ (λ_=>⟨_,jd kw _ _ _,ae rfl fin⟩) (λ_=>fin)

def DocE (σ:Out)(b:Nat)(L:List ai)(ex:List TX)(fs:List Bk)(p:PS)(w:World):Prop:=
 ∃M E g y,Stk p (fs.map Bk.ob++g) M/\Txts p ((txF fs++ex).map TX.t) E/\(∀f∈fs,f.ok)/\CN .none g y/\Sat σ w (p.at b::M++(E++(aM fs++(y++L))))
theorem pR {X:OA->Int->WP}{b k:Nat}{ex:List TX}{fs:List Bk}{p:PS}(O: ∀E y w,aG.bl1 R X E y w->X E y w)(h:DocE σ b L ex fs p w)(a6:k<fs.length)(hc:callE P aJ #[kT (kE b)] (λe I=> ∃(H:Value),e= hQ H/\X (kE b) (k:Int) I) w):X (kE b) (k:Int) w:=by
 obtain⟨M,a7,U,W,hs,ht,V,b3,h⟩:=h;have g:=hs.2.1;rw[lA0,lS0] at g;refine O _ _ _ (aa ?_);refine⟨_,_,_,h.ldA,?_⟩;rw[g];exact ag (by simp;omega) hc
theorem DocE.closed {ex:List TX}{b:Nat}{gs:List Bk}{par f:Bk}{p2:PS}{U y O:List ai}{V:Option Addr}{I:Nat}{d:DB}{H:List ai}(a6: ∀W∈gs++ [par,f],Bk.ok W)(b6:par.D.length<99999)(b3:Stk p2 (gs.map Bk.ob++ [{par.ob with q:=V,n:=par.ob.n+1,c:=I}]) U)(b4:Sl 1 aO V (par.ob.n+1) I (par.D.map DB.v++ [d.v]) y)(ht:Txts p2 ((txF (gs++ [par,f])++ex).map TX.t) O)(a7:d.txs=cj f.D)(h:Sat σ w (p2.at b::U++(y++(O++(aM gs++(H++(cV par.D++(txc par.D++(d.own++(txc f.D++L)))))))))):
 DocE σ b L ex (gs++ [⟨{par.ob with q:=V,n:=par.ob.n+1,c:=I},H,par.D++ [d],y⟩]) p2 w:=by
 refine⟨U,O,[],[],?_,?_,?_,⟨rfl,rfl⟩,?_⟩
 ·rw[lV0,lG0];exact b3
 ·have e:txF (gs++ [⟨{par.ob with q:=V,n:=par.ob.n+1,c:=I},H,par.D++ [d],y⟩])=txF (gs++ [par,f]):=by
   rw[bE,bE,dH,ul,jy,a7]
  rw[e];exact ht
 ·intro W E;rcases lO0.1 E with E|E
  ·exact a6 W (by simp[E])
  ·obtain rfl:=lR0.1 E;obtain⟨_,b7,b5⟩:=a6 par (by simp);exact⟨by rw[lV0];exact b4,by simp;omega,b5⟩
 ·rw[bh,dy,lu,nB,a7]
  show Sat σ w (p2.at b::U++(O++(aM gs++(y++(H++((cV par.D++d.own)++(txc par.D++txc f.D))))++([]++L))))
  exact h.re
theorem yz {ex:List TX}{b:Nat}{gs:List Bk}{par f:Bk}{p:PS}(h:DocE σ b L ex (gs++ [par,f]) p w)(b4:f.isQuote)(b5:par.D.length<99999)(a7: ∀w g nb x,g.like par->g.D=par.D++ [nU nb f.ob.s f.ob.e f.ob.q f.ob.n f.ob.c f.IM f.D]->DocE σ b L ex (gs++ [g]) {p with stn:=gs.length+1} w->R (hQ x) w):
 callE P aJ #[kT (kE b)] R w:=by
 obtain⟨M,b3,b8,c1,hs,ht,H,⟨rfl,rfl⟩,h⟩:=h;obtain⟨O,E,U⟩:=b4;have hs:Stk p (gs.map Bk.ob++ [par.ob]++ [f.ob]) M:=by simpa using hs
 have y:=(H par (by simp)).1;have b9:par.ob.n=par.D.length:=by have:=y.1;simp at this;omega
 rw[bh,jB,U] at h;refine iP h hs E λw h=>?_
 rw[E];refine bm mN ?_;refine o7 h hs λw nb h=>⟨_,rfl,none,false,w,jY (by decide) w,ae rfl ?_⟩
 have h:Sat σ w (p.at b::M++(par.IM++(b3++(aM gs++(par.own++(cV par.D++(txc par.D++((Dk nb f.ob.s f.ob.e f.ob.q f.ob.n f.ob.c::(f.IM++cV f.D))++(txc f.D++(E8 O::L)))))))))):=h.re
 refine lJ h hs y (by omega) λw p2 c2 V b7 b6 a6 I W h=>?_
 have e:p2= {p with stn:=gs.length+1}:=by rw[a6,lS0]
 rw[e] at I h;refine a7 w ⟨{par.ob with q:=b7,n:=par.ob.n+1,c:=b6},par.own,par.D++ [nU nb f.ob.s f.ob.e f.ob.q f.ob.n f.ob.c f.IM f.D],V⟩ nb _ ⟨rfl,rfl,rfl,rfl⟩ rfl (DocE.closed (par:=par) (f:=f) (d:=nU nb f.ob.s f.ob.e f.ob.q f.ob.n f.ob.c f.IM f.D) H b5 I W (ht.of rfl rfl rfl) rfl ?_);exact h.less [E8 O] (by intro _;simp only[nU,lN3,dE,eK,me]<;>omega)
theorem Aj {ex:List TX}{b lb wd:Nat}{hv:Bool}{bul num:Int}{it:Option Addr}{td:Value}{gs:List Bk}{par f:Bk}{p:PS}(h:DocE σ b L ex (gs++ [par,f]) p w)(b8:f.isItem lb wd hv)(b6:par.isListT lb bul num it td)(b9:par.D.length<99999)(b7: ∀w g nb x,g.isListT lb bul num none td->g.ob.s=par.ob.s->g.ob.e=par.ob.e->g.D=par.D++ [(IT.mk nb f.ob.s f.ob.e f.ob.q f.ob.n f.ob.c wd f.IM f.D).db]->(IT.mk nb f.ob.s f.ob.e f.ob.q f.ob.n f.ob.c wd f.IM f.D).ok->DocE σ b L ex (gs++ [g]) {p with stn:=gs.length+1} w->R (hQ x) w):
 callE P aJ #[kT (kE b)] R w:=by
 obtain⟨M,E,c4,c8,hs,ht,y,⟨rfl,rfl⟩,h⟩:=h;obtain⟨ib,I,U⟩:=b8;obtain⟨b4,a6⟩:=b6;have hs:Stk p (gs.map Bk.ob++ [par.ob]++ [f.ob]) M:=by simpa using hs
 have H:=(y par (by simp)).1;obtain⟨W,c3,V⟩:=y f (by simp);have c5:par.ob.n=par.D.length:=by have:=H.1;simp at this;omega
 rw[bh,jB,U,a6] at h;refine iP h hs I λw h=>?_
 rw[I];have h:Sat σ w (p.at b::M++(gc ib lb wd hv::cM lb bul num false it td::(par.IM++(E++(aM gs++(cV par.D++(txc par.D++(f.IM++(cV f.D++(txc f.D++L)))))))))):=h.re
 refine bm om ?_;refine qK h hs λw nb h=>⟨_,rfl,none,false,w,jY (by decide) w,ae rfl ?_⟩
 have h:Sat σ w (p.at b::M++(par.IM++(E++(aM gs++([cM lb bul num false none td]++(cV par.D++(txc par.D++(((IT.mk nb f.ob.s f.ob.e f.ob.q f.ob.n f.ob.c wd f.IM f.D).chunk::(f.IM++cV f.D))++(txc f.D++L))))))))):=by
  have h:Sat σ w (p.at b::M++((IT.mk nb f.ob.s f.ob.e f.ob.q f.ob.n f.ob.c wd f.IM f.D).chunk::cM lb bul num false none td::(par.IM++(E++(aM gs++(cV par.D++(txc par.D++(f.IM++(cV f.D++(txc f.D++L)))))))))):=h
  exact h.re
 refine lJ h hs H (by omega) λw p2 c9 a7 c2 c1 b5 O b3 h=>?_
 have e:p2= {p with stn:=gs.length+1}:=by rw[b5,lS0]
 rw[e] at O h;refine b7 w ⟨{par.ob with q:=c2,n:=par.ob.n+1,c:=c1},[cM lb bul num false none td],par.D++ [(IT.mk nb f.ob.s f.ob.e f.ob.q f.ob.n f.ob.c wd f.IM f.D).db],a7⟩ nb _ ⟨b4,rfl⟩ rfl rfl rfl ⟨W,by show f.D.length<1000000;omega,V⟩ (DocE.closed (par:=par) (f:=f) (d:=(IT.mk nb f.ob.s f.ob.e f.ob.q f.ob.n f.ob.c wd f.IM f.D).db) y b9 O b3 (ht.of rfl rfl rfl) rfl ?_);exact h
theorem Ah {ex:List TX}{b lb pb:Nat}{op:Opt}{bul num:Int}{it:Option Addr}{gs:List Bk}{par f:Bk}{p:PS}{items:List IT}{pos:DB->Nat × Nat}(h:DocE σ b L ex (gs++ [par,f]) p w)(e1:f.isList lb bul num it)(E:f.D=items.map IT.db)(d0:items≠ [])(I: ∀i∈items,i.ok/\ ∀d∈i.D,d.kindOK/\d.posIs (pos d).1 (pos d).2/\(pos d).1<1000000000/\(pos d).2<2000000000)(c3:p.pz=kE pb)(c9:op.at pb∈L)(b8:op.task=false)(e3:par.D.length<99999)(d2: ∀w (p':PS) U nb e g x,p'.base=p.base->p'.depth=p.depth->p'.lineno=p.lineno->p'.stn=gs.length+1->U.like par->Tgh (l9 pos items) items g->((∃i∈items,e=i.e)/\items.getLast?.map IT.e=some e)->U.D=par.D++ [p7 nb f.ob.s e bul num (l9 pos items) f.ob.q f.ob.n f.ob.c f.IM g]->
  DocE σ b L ex (gs++ [U]) p' w->R (hQ x) w):
 callE P aJ #[kT (kE b)] R w:=by
 obtain⟨M,a6,e6,f1,hs,ht,W,⟨rfl,rfl⟩,h⟩:=h;obtain⟨b5,c1⟩:=e1;have hs:Stk p (gs.map Bk.ob++ [par.ob]++ [f.ob]) M:=by simpa using hs
 have b3:=(W par (by simp)).1;obtain⟨O,b4,c2⟩:=W f (by simp);have e8:par.ob.n=par.D.length:=by have:=b3.1;simp at this;omega
 have c8:f.D.map DB.v=items.map IT.v:=by rw[E];simp[Function.comp_def,IT.db]
 rw[c8] at O;have e9:items.length<100000:=by rw[E] at b4;simpa using b4
 have e7:txc f.D=(cj (items.map IT.db)).map TX.chunk:=by rw[E];rfl
 rw[bh,jB,c1,E] at h;refine iP h hs b5 λw h=>?_
 rw[b5];have h:Sat σ w (p.at b::M++(cM lb bul num false it .nilFunc::(f.IM++(cV (items.map IT.db)++(par.IM++(a6++(aM gs++(par.own++(cV par.D++(txc par.D++(txc (items.map IT.db)++L))))))))))):=h.re
 refine bm ol ?_;refine qJ (pos:=pos) h hs O d0 (by omega) c2.1 I λw nb e g V d3 h=>⟨_,rfl,kE nb,true,w,oa (by rw[mw];intro f0 h;cases h) mw w,ag rfl (aa ?_)⟩
 have b7:g.map IT.v=items.map IT.v:=by
  rcases V with ⟨_,rfl⟩|⟨_,hr⟩
  ·rfl
  ·exact hr.vs
 have a7:cj (g.map IT.db)=cj (items.map IT.db)/\ ∀i∈g,i.ok/\ ∀d∈i.D,d.ifc:=by
  rcases V with ⟨_,rfl⟩|⟨_,hr⟩
  ·exact⟨rfl,λi hi=>⟨(I i hi).1,λd hd=>((I i hi).2 d hd).1.ifc.1⟩⟩
  ·exact hr.facts λi hi d hd=>((I i hi).2 d hd).1
 have b9:g.length<1000000:=by have:=congrArg List.length b7;simp at this;omega
 have k2: ∀(y:Bool) w,Sat σ w (({p with corner:=y}:PS).at b::M++(ta nb f.ob.s e bul num (l9 pos items) f.ob.q f.ob.n f.ob.c::(f.IM++(cV (g.map IT.db)++(par.IM++(a6++(aM gs++(par.own++(cV par.D++(txc par.D++(txc (items.map IT.db)++L)))))))))))->
  aK.k2 R (kE b) (.iface dk (kT (kE nb))) (kE nb) w:=by
  intro y w h;refine aa ⟨_,Sat.ld h (.head _) (i:=0) rfl,?_⟩;rw[c3];refine aa ⟨_,Sat.ld h (by simp[c9]:op.at pb∈_) rfl,ae b8 ?_⟩;have h:Sat σ w (({p with corner:=y}:PS).at b::M++(par.IM++(a6++(aM gs++(par.own++(cV par.D++(txc par.D++((ta nb f.ob.s e bul num (l9 pos items) f.ob.q f.ob.n f.ob.c::(f.IM++cV (g.map IT.db)))++(txc f.D++L))))))))):=by
   rw[E];exact h.re
  refine lJ h (hs.of rfl rfl rfl) b3 (by omega) λw p2 f2 c4 e5 e4 d1 b6 c5 h=>?_
  have e0:p2= {p with corner:=y,stn:=gs.length+1}:=by rw[d1,lS0]
  rw[e0] at b6 h;refine d2 w {p with corner:=y,stn:=gs.length+1} ⟨{par.ob with q:=e5,n:=par.ob.n+1,c:=e4},par.own,par.D++ [p7 nb f.ob.s e bul num (l9 pos items) f.ob.q f.ob.n f.ob.c f.IM g],c4⟩ nb e g _ rfl rfl rfl rfl ⟨rfl,rfl,rfl,rfl⟩ V d3 rfl
   (DocE.closed (par:=par) (f:=f) (d:=p7 nb f.ob.s e bul num (l9 pos items) f.ob.q f.ob.n f.ob.c f.IM g) W e3 b6 c5 (ht.of rfl rfl rfl) ?_ ?_)
  ·rw[E];exact a7.1
  ·exact h
 refine⟨_,Sat.ld h (.head _) (i:=6) rfl,bJ (λ_=>aa ?_) λ_=>?_⟩
 ·refine Sat.st h (k:=0) rfl (by simp[PS.cells]) trivial rfl λw h=>?_
  exact k2 true w h
 ·refine pj (nb:=nb) (s:=f.ob.s) (e:=e) (bul:=bul) (num:=num) (loose:=l9 pos items) (items:=g) (b7▸O) a7.2 b9 h (λx H=>?_) λy=>⟨_,rfl,aa ?_⟩
  ·rcases lX0.1 H with rfl|H
   ·simp
   ·rcases lO0.1 H with H|H<;>simp[H]
  ·refine Sat.st h (k:=0) rfl (by simp[PS.cells]) trivial rfl λw h=>?_
   exact k2 y w h
def CQ (G:List UInt8->List Inl)(op:Opt)(xs:List IN)(junk:List Bk):Prop:=
 ∀(σ:Out) (R:Ending->World->Prop) (L:List ai) (ex:List TX) (b pb:Nat) (p:PS) (w:World) (X:OA->Int->WP) (gs:List Bk) (top:Bk) (k:Nat),(∀E H w,aG.bl1 R X E H w->X E H w)->op.at pb∈L->p.pz=kE pb->k<=gs.length+1->
  (∀I∈gs++top::junk,I.D.length<=90000)->(txF (gs++top::junk)).length<=90000->DocE σ b L ex (gs++top::junk) p w->
  (∀w (p':PS) y l,p'.base=p.base->p'.depth=p.depth->p'.lineno=p.lineno->y.like top->y.D=top.D++l->TDs G op l xs->(cj l).length<=(txF junk).length+1->DocE σ b L ex (gs++ [y]) p' w->X (kE b) (k:Int) w)->X (kE b) (k:Int) w
theorem Pd.closeE (f6:op.task=false){xs:List IN}{junk:List Bk}{lf:Leaf}(h:Pd G op xs junk lf)(d0:lf= .none):CQ G op xs junk:=by
 induction h with
 |none=>
  intro σ R L ex b pb p w X gs top k O a7 W f4 I V h b4;exact b4 w p top [] rfl rfl rfl (.refl top) (by simp) .nil (by simp[cj]) h
 |para _=>cases d0
 | @quote f junk lf xs ys hq hxs hys ih=>
  intro σ R L ex b pb p w X gs top k O a7 W f4 I V h b4;have e0:gs++top::f::junk=(gs++ [top])++f::junk:=by simp
  rw[e0] at I V h;have g4:=I top (by simp);refine ih d0 σ R L ex b pb p w X (gs++ [top]) f k O a7 W (by simp;omega) I V h λw p' y l b1 b2 d1 U a6 c5 g5 h=>?_
  have h:DocE σ b L ex (gs++ [top,y]) p' w:=by simpa using h
  have H:y.ok:=by obtain⟨_,_,_,_,_,_,c8,_⟩:=h;exact c8 y (by simp)
  have e8:y.ob.n<1000000:=by have:=H.1.1;have:=H.2.1;simp at*;omega
  refine pR O h (by simp;omega) ?_;refine yz h (U.quote hq) (by omega) λw b9 nb x ht b7 h=>⟨_,rfl,?_⟩
  refine b4 w {p' with stn:=gs.length+1} b9 _ b1 b2 d1 ht b7 ?_ ?_ h
  rotate_left
  ·have b5:cj [nU nb y.ob.s y.ob.e y.ob.q y.ob.n y.ob.c y.IM y.D]=cj f.D++cj l:=by rw[<-de,<-a6];simp[cj,nU]
   have d2:txF (f::junk)=cj f.D++txF junk:=by simp[txF]
   rw[b5,d2,lA0,lA0];omega
  have:=yR (nb:=nb) (s:=y.ob.s) (e:=y.ob.e) H.1 e8 ⟨H.2.2.1,by have:=H.2.2.2;omega⟩ (by rw[a6];exact hxs.append c5)
  rw[U.2.1,U.2.2.1] at this⊢;exact .cons this .nil
 | @list f g junk lf lb wd bul num it items ixs xs ys hf hfD hit hg hwd hu hxs hys ih=>
  intro σ R L ex b pb p w X gs top k O a7 W f4 I V h b4;have e0:gs++top::f::g::junk=(gs++ [top,f])++g::junk:=by simp
  rw[e0] at I V h;have g4:=I top (by simp);have h6:=I f (by simp);refine ih d0 σ R L ex b pb p w X (gs++ [top,f]) g k O a7 W (by simp;omega) I V h λw p' E l b1 b2 d1 U a6 c5 g5 h=>?_
  have h:DocE σ b L ex (gs++ [top]++ [f,E]) p' w:=by simpa using h
  refine pR O h (by simp;omega) ?_;refine Aj h (U.itemOf hg).item hf (by omega) λw y nb x g2 f2 h7 b7 f1 h=>⟨_,rfl,?_⟩
  generalize c9:IT.mk nb E.ob.s E.ob.e E.ob.q E.ob.n E.ob.c wd E.IM E.D=ii at b7 f1;have b6:ItR G op (items++ [ii]) (ixs++ [.mk {kind:=4,width:=wd,s:=g.ob.s,e:=g.ob.e} (xs++ys)]):=by
   refine hit.append ?_;have:=ItR.cons (G:=G) (op:=op) (i:=ii) (xs:=xs++ys) f1 (by rw[<-c9];show TDs G op E.D (xs++ys);rw[a6];exact hxs.append c5) .nil
   rw[<-c9] at this⊢;have e9:(IT.mk nb E.ob.s E.ob.e E.ob.q E.ob.n E.ob.c wd E.IM E.D).s=g.ob.s:=U.2.1;have b5:(IT.mk nb E.ob.s E.ob.e E.ob.q E.ob.n E.ob.c wd E.IM E.D).e=g.ob.e:=U.2.2.1;rw[e9,b5] at this;exact this
  have h:DocE σ b L ex (gs++ [top,y]) {p' with stn:=(gs++ [top]).length+1} w:=by simpa using h
  have H:y.ok:=by obtain⟨_,_,_,_,_,_,c8,_⟩:=h;exact c8 y (by simp)
  have f0:y.D=(items++ [ii]).map IT.db:=by rw[b7,hfD];simp
  have e8:y.ob.n<1000000:=by have:=H.1.1;have:=H.2.1;simp at*;omega
  refine pR O h (by simp;omega) ?_;refine Ah (op:=op) (pb:=pb) (items:=items++ [ii]) (pos:=vu) h g2 f0 (by simp) b6.facts (by rw[<-W];exact oQ b1) a7 f6 (by omega) λw p2 b9 g0 e9 b8 x h1 h0 h5 h8 ht f3 f5 g1 h=>⟨_,rfl,?_⟩
  refine b4 w p2 b9 _ (h1.trans b1) (h0.trans b2) (h5.trans d1) ht g1 (.cons ?_ .nil) ?_ h
  rotate_left
  ·have b5:cj [p7 g0 y.ob.s e9 bul.toNat num (l9 vu (items++ [ii])) y.ob.q y.ob.n y.ob.c y.IM b8]=cj (b8.map IT.db):=by simp[cj,p7]
   have h2:(cj (b8.map IT.db))=cj ((items++ [ii]).map IT.db):=by
    rcases f3 with ⟨_,rfl⟩|⟨_,hr⟩
    ·rfl
    ·exact(hr.facts λi hi d hd=>((b6.facts i hi).2 d hd).1).1
   have h4:cj ii.D=cj g.D++cj l:=by rw[<-c9,<-de,<-a6]
   have g7:cj ((items++ [ii]).map IT.db)=cj f.D++(cj g.D++cj l):=by rw[lV0,de,<-hfD,<-h4];simp[cj,IT.db]
   have d2:txF (f::g::junk)=cj f.D++(cj g.D++txF junk):=by simp[txF]
   rw[b5,h2,g7,d2];simp only[lA0];omega
  have d3:=H.1;rw[f0] at d3;have g6:((items++ [ii]).map IT.db).map DB.v=(items++ [ii]).map IT.v:=by simp[Function.comp_def,IT.db]
  rw[g6] at d3;rw[f2];refine A2 hu d3 e8 ⟨f2▸H.2.2.1,?_⟩ b6 f3 f5.2;obtain⟨h3,g3,rfl⟩:=f5.1;have:=(b6.facts h3 g3).1.se.2;omega
theorem ER {ex:List TX}{xs:List IN}{junk:List Bk}{b pb:Nat}{p:PS}{gs:List Bk}{top:Bk}(b5:CQ G op xs junk)(a6:op.at pb∈L)(U:p.pz=kE pb)(c1: ∀g∈gs++top::junk,g.D.length<=90000)(b9:(txF (gs++top::junk)).length<=90000)(h:DocE σ b L ex (gs++top::junk) p w)(b7: ∀w (p':PS) y l,p'.base=p.base->p'.depth=p.depth->p'.lineno=p.lineno->y.like top->y.D=top.D++l->TDs G op l xs->(cj l).length<=(txF junk).length+1->DocE σ b L ex (gs++ [y]) p' w->R (hQ (.tuple #[])) w):
 callE P bj #[kT (kE b),hY ((gs.length+1:Nat):Int)] R w:=by
 refine aG.sound ?_;have H:=h;obtain⟨M,b8,O,c2,hs,ht,a7,⟨rfl,rfl⟩,h⟩:=h;have E:=hs.2.1;simp only[lA0,lS0,lF0,lM1,lN1] at E;refine aa ?_;refine⟨_,_,_,h.ldA,?_⟩;rw[E];refine ae (by simp;omega) ?_;intro X I;refine b5 σ R L ex b pb p w X gs top (gs.length+1) I a6 U (lZ0 _) c1 b9 H λw p' y l b1 b2 b6 c3 W V b4 h=>?_
 have H:=h;obtain⟨M,b8,O,c2,hs,ht,a7,⟨rfl,rfl⟩,h⟩:=h;have E:=hs.2.1;simp only[lA0,lS0,lF0,lM1,lN1] at E;refine I _ _ _ (aa ?_);refine⟨_,_,_,h.ldA,?_⟩;rw[E];exact ae (by simp) (b7 w p' y l b1 b2 b6 c3 W V b4 H)
theorem qp {b pb:Nat}{xs:List IN}{junk:List Bk}{p:PS}{gs:List Bk}{top:Bk}{d:DB}{b5:TypeId}{q:OA}(d3:CQ G op xs junk)(c9:op.at pb∈L)(c5:p.pz=kE pb)(c2: ∀g∈gs++top::junk,g.D.length<=90000)(e4:(txF (gs++top::junk)).length<=90000)(h:DocE σ b (d.own++(d.txs.map TX.chunk++L)) d.txs (gs++top::junk) p w)(hd:p.depth=gs.length)(e8:gs.length<900000)(hv:d.v= .iface b5 (kT q))(e9:xs.length<=1)(e1: ∀w (p':PS) a6 l,p'.base=p.base->p'.depth=p.depth->p'.lineno=p.lineno->a6.like top->a6.D=top.D++(l++ [d])->TDs G op l xs->(cj l).length<=(txF junk).length+1->DocC σ b L (gs++ [a6]) .none p' w->R (hQ (.tuple #[])) w):
 callE P dL #[kT (kE b),.iface b5 (kT q)] R w:=by
 refine fZ.sound ?_;have e6:=h;obtain⟨M,O,c4,e5,hs,ht,b4,⟨rfl,rfl⟩,h⟩:=h;refine aa ⟨_,Sat.ld h (.head _) (i:=5) rfl,?_⟩;have e:i64.wrap (p.depth+1)=((gs.length+1:Nat):Int):=by rw[hd,i64_in _ (by omega)];omega
 rw[e];refine ER (pb:=pb) d3 (lB0 _ (lB0 _ c9)) c5 c2 e4 e6 λw I y l b1 b2 e0 W b9 b8 d1 h=>⟨rfl,?_⟩
 obtain⟨M,O,c4,e5,hs,ht,b4,⟨rfl,rfl⟩,h⟩:=h;rw[lG0,lV0] at hs;have hs:Stk I (gs.map Bk.ob++ [y.ob]) M:=hs;have b6:=hs.2.1;rw[lA0,lS0,lE0] at b6;have b7:=b4 y (by simp);have c1:=b7.1;have e7:y.ob.n=y.D.length:=by have:=c1.1;simp at this;omega
 have f0:y.D.length<=90001:=by
  have f1:=c2 top (by simp);have f2:=b8.len;rw[b9,lA0];omega
 obtain⟨sb,sp,c3,rfl,c8⟩:=hs.split (by simp);have a7:(gs.map Bk.ob).length=gs.length:=by simp
 have h:Sat σ w (I.at b::(sb,cel (aP (gs.map Bk.ob++ [y.ob])++sp) ay)::(O++(aM (gs++ [y])++(d.own++(d.txs.map TX.chunk++L))))):=h.re
 refine h.tk λw h=>?_
 refine aa (aa ?_);refine⟨_,_,_,h.ldA,?_⟩;refine⟨_,_,_,h.ldA,?_⟩;rw[b6,show i64.wrap (((gs.length+1:Nat):Int) - 1)=((gs.length:Nat):Int) by rw[i64_in _ (by omega)];omega,c3];refine⟨by omega,by omega,aa ?_⟩;simp only[lK0,lN0,lC0,lN1];refine⟨_,_,_,Sat.ld h (.tail _ (.head _)) (fe (j:=gs.length) (f:=1) (by decide) (by rw[<-a7];exact ig (l:=gs.map Bk.ob) y.ob)),?_⟩;rw[bh,dy] at h;have h:Sat σ _ (y.IM++(I.at b::(sb,cel (aP (gs.map Bk.ob++ [y.ob])++sp) ay)::(O++(aM gs++(y.own++(cV y.D++txc y.D))++(d.own++(d.txs.map TX.chunk++L)))))):=h.re
 refine Sat.app1 rowBlock c1 h (v:= .iface b5 (kT q)) rfl (by simp[Value.cells,Value.oneCell']) (by kernel_rfl) (by omega) (by omega) (by decide) λH E w U d0 h=>?_
 have h:Sat σ _ (I.at b::(sb,cel (aP (gs.map Bk.ob++ [y.ob])++sp) ay)::(U++(O++(aM gs++(y.own++(cV y.D++txc y.D))++(d.own++(d.txs.map TX.chunk++L)))))):=h.re
 refine Sat.st h (k:=1) rfl (by rw[lA0,aR,lA0,a7,lE0];omega) trivial rfl λw h=>?_
 have e3:(aP (gs.map Bk.ob++ [y.ob])++sp).set (gs.length*4+1) (hT H (y.ob.n+1) E)=aP (gs.map Bk.ob++ [{y.ob with q:=H,n:=y.ob.n+1,c:=E}])++sp:=by
  have:=kS (l:=gs.map Bk.ob) (sp:=sp) (o:=y.ob) (o':= {y.ob with q:=H,n:=y.ob.n+1,c:=E}) (f:=1) (v:= hT H (y.ob.n+1) E) (by decide) rfl
  rw[a7] at this;exact this
 have h:Sat σ w (I.at b::(sb,cel (aP (gs.map Bk.ob++ [{y.ob with q:=H,n:=y.ob.n+1,c:=E}])++sp) ay)::(U++(O++(aM gs++(y.own++(cV y.D++txc y.D))++(d.own++(d.txs.map TX.chunk++L)))))):=by
  rw[<-e3];exact h
 have d2:Stk I (gs.map Bk.ob++ [{y.ob with q:=H,n:=y.ob.n+1,c:=E}]) [(sb,cel (aP (gs.map Bk.ob++ [{y.ob with q:=H,n:=y.ob.n+1,c:=E}])++sp) ay)]:=by
  refine Stk.mk' c3 ?_ (by rw[b6];simp) (by simp;omega);rw[<-c8];simp only[lA0,aR,lE0,lM1]
 refine e1 w I ⟨{y.ob with q:=H,n:=y.ob.n+1,c:=E},y.own,y.D++ [d],U⟩ l b1 b2 e0 ⟨W.1,W.2.1,W.2.2.1,W.2.2.2⟩ (by show y.D++ [d]=_;rw[b9,lD0]) b8 d1 ?_;refine⟨_,O,[],[],by rw[lV0,lG0];exact d2,?_,?_,⟨rfl,rfl⟩,?_⟩
 ·have:txF (gs++ [⟨{y.ob with q:=H,n:=y.ob.n+1,c:=E},y.own,y.D++ [d],U⟩])=txF (gs++ [y])++d.txs:=by
   rw[bE,bE,dH,dH,jy,lD0]
  rw[this];exact ht
 ·intro g V;rcases lO0.1 V with V|V
  ·exact b4 g (by simp[V])
  ·obtain rfl:=lR0.1 V;refine⟨?_,by simp;omega,b7.2.2⟩
   show Sl 1 aO H (y.ob.n+1) E ((y.D++ [d]).map DB.v) U
   rw[lV0,List.map_singleton,hv];exact d0
 ·rw[bh,dy,lu,nB];exact h.re
namespace dT
def k1 (R:EP)(y:BA)(g:Int)(w:World):Prop:=0<=g/\g<=(y.size:Int)/\R (hQ (hX (y.extract 0 (Int.toNat g)))) w
def bl2 (R:EP)(Xa:BA->BA->Int->WP)(O:BA->BA->Int->Bool->Int->WP)(H E:BA)(g:Int)(I:Bool)(y:Int)(w:World):Prop:=br (decide (y<(E.size:Int))) (tk w λU=>0<=y/\y<(E.size:Int)/\0<=(i64.wrap (g - 1))/\(i64.wrap (g - 1))<(H.size:Int)/\br ((bt E y)==(bt H (i64.wrap (g - 1)))) (False) (O H E g I (i64.wrap (y+1)) U)) (br (!I) (k1 R H g w) (False))
def l2 (R:EP)(Xa:BA->BA->Int->WP)(I E:BA)(y:Int)(g:Bool)(H:Int)(w:World):Prop:=∀X:BA->BA->Int->Bool->Int->WP,(∀I E y g H w,bl2 R Xa X I E y g H w->X I E y g H w)->X I E y g H w
def bl1 (R:EP)(Xa:BA->BA->Int->WP)(y E:BA)(g:Int)(w:World):Prop:=br (decide (g>0)) (l2 R Xa y E g false 0 w) (False)
def l1 (R:EP)(y E:BA)(g:Int)(w:World):Prop:=∀X:BA->BA->Int->WP,(∀y E g w,bl1 R X y E g w->X y E g w)->X y E g w
end dT
def dT (R:EP)(g y:BA)(w:World):Prop:=dT.l1 R g y (g.size:Int) w
theorem dT.sound {R x0 x1 w}(h:dT R x0 x1 w):callE P lY #[hX x0,hX x1] R w:=
 aH [(19,.lp [1,21,107] (dT.bl1 R) λXa=> [(14,.no),(85,.lp [1,21,107,120,147] (dT.bl2 R Xa) λg=> [(17,.dr (rpN [0,3,6,9,12,15,18,21])),(41,.no)]),(237,.no)]),(15,.mk [1,107] (dT.k1 R))] Tryz.func188 Tryz.call188 h
namespace cv
def k1 (R:EP)(y:BA)(g:Int)(w:World):Prop:=0<=g/\g<=(y.size:Int)/\R (hQ (hX (y.extract 0 (Int.toNat g)))) w
def bl1 (R:EP)(Xa:BA->Int->WP)(y:BA)(g:Int)(w:World):Prop:=((decide (g>0))=true->0<=(i64.wrap (g - 1))/\(i64.wrap (g - 1))<(y.size:Int))/\(((decide (g>0)) && (!((bt y (i64.wrap (g - 1)))==32)))=true->0<=(i64.wrap (g - 1))/\(i64.wrap (g - 1))<(y.size:Int))/\br ((decide (g>0)) && (((bt y (i64.wrap (g - 1)))==32)||((bt y (i64.wrap (g - 1)))==9))) (Xa y (i64.wrap (g - 1)) w) (k1 R y g w)
def l1 (R:EP)(y:BA)(g:Int)(w:World):Prop:=∀X:BA->Int->WP,(∀y g w,bl1 R X y g w->X y g w)->X y g w
end cv
def cv (R:EP)(g:BA)(w:World):Prop:=cv.l1 R g (g.size:Int) w
theorem cv.sound {R x0 w}(h:cv R x0 w):callE P ft #[hX x0] R w:=
 aH [(19,.lp [1,67] (cv.bl1 R) λXa=> []),(15,.mk [1,67] (cv.k1 R))] Tryz.func187 Tryz.call187 h

theorem sub_le (s:List UInt8)(i:Nat):(sub s i (i+1)).length<=1:=by
 unfold sub;rw[lL1,lB1];omega

theorem tu {l:List UInt8}(V:l.length<4611686018427387904)(h:R (hQ (hX (bs (vC cL l)))) w):callE P ft #[hX (bs l)] R w:=by
 refine cv.sound ?_;intro Y H;rw[aI];refine F9 (l:=l) (X:=λj=>Y (bs l) (j:Int) w) (p:=cL) (λi hi E O=>H _ _ _ ?_) l.length (lZ0 _) (λj W U I=>H _ _ _ ?_)
 ·have hd:=gV (n:=i+1) (by omega) (by omega);rw[lF3] at hd;refine⟨λ_=>?_,λ_=>?_,ag ?_ ?_⟩
  ·rw[hd];exact⟨by omega,by simp;omega⟩
  ·rw[hd];exact⟨by omega,by simp;omega⟩
  ·rw[hd,da hi 32 32 rfl,da hi 9 9 rfl];simp only[cL] at E;rw[E];simp
  ·rw[hd];exact O
 ·have g:cv.k1 R (bs l) (j:Int) w:=by
   refine⟨by omega,by simp;omega,?_⟩;rw[bV];simp only[lC0,lL2,I,lT2];exact h
  rcases lI4 j with y|y
  ·subst y;exact⟨λh=>by simp at h,λh=>by simp at h,ae (by simp) g⟩
  ·obtain⟨i,rfl⟩: ∃i,j=i+1:=⟨j - 1,by omega⟩
   have hd:=gV (n:=i+1) (by omega) (by omega);rw[lF3] at hd;refine⟨λ_=>?_,λ_=>?_,ae ?_ g⟩
   ·rw[hd];exact⟨by omega,by simp;omega⟩
   ·rw[hd];exact⟨by omega,by simp;omega⟩
   ·rw[hd,da (show i<l.length by omega) 32 32 rfl,da (show i<l.length by omega) 9 9 rfl];have:=U i (by omega) rfl;simp only[cL] at this;rw[this];simp

theorem sS {m:List UInt8}{d:UInt8}(hs:m.length<1000000000)(hd:d≠35)(h:Sat σ w L)(I: ∀w,Sat σ w L->R (hQ (hX (bs (m++ [d])))) w):callE P lY #[hX (bs (m++ [d])),hX (bs [35])] R w:=by
 refine dT.sound ?_;intro X V;have g:(m++ [d]).length=m.length+1:=by simp
 rw[aI,g];refine V _ _ _ _ (ag (decide_eq_true (by omega)) ?_);intro Y y;refine y _ _ _ _ _ _ (ag (by decide) ?_);have O:i64.wrap (((m.length+1:Nat):Int) - 1)=((m.length:Nat):Int):=by simp (disch:=omega) only[i64_in];omega
 refine h.tk λw h=>?_
 rw[O];refine⟨by decide,by decide,by omega,by rw[aI,g];omega,?_⟩;have W:bt (bs [35]) 0=35:=rfl;have H:bt (bs (m++ [d])) ((m.length:Nat):Int)=(d.toNat:Int):=by rw[oP,uW]
 rw[W,H];have E:((35:Int)==(d.toNat:Int))=false:=by
  have:=my 35 d;have U:((35:UInt8)==d)=false:=by simpa using λh=>hd h.symm
  rw[U] at this;exact this
 refine ae E ?_;refine y _ _ _ _ _ _ (ae (by decide) (ag rfl ?_));unfold dT.k1;refine⟨by omega,by rw[aI,g];omega,?_⟩;rw[bV,lL2,lC0,<-g,lT2];exact I w h

def oK (b s e lv t:Nat)(id:List UInt8):ai:=(b,cel [hY s,hY e,hY lv,kT (kE t),hX (bs id)] pQ)

def zLine:Ln:=⟨0,0,0,[],0⟩

theorem yP {m:List UInt8}{d:UInt8}(hd:cL d=false):vC cL (m++ [d])=m++ [d]:=by
 unfold vC;rw[lD5,List.reverse_singleton,lR2,lB3,hd];simp

theorem mK:kG P gd "Pos" cz=true:=by kernel_rfl
theorem vV:kG P cT "Pos" cz=true:=by kernel_rfl
theorem pv {nb t s e s' e' lv:Nat}{raw id:List UInt8}{q:OA}{n c:Nat}{vs:List Value}{RM KM:List ai}{xs:List IN}(b5:Sl 1 aC q n c vs RM)(b4:jN d9 xs vs KM)(b7:n<1073741824)(W:id.length<1073741824):
 qu bR (.mk {kind:=5,num:=(lv:Nat),title:=id,s:=s,e:=e} xs) (bkV gd nb) (oK nb s e lv t id::fp t s' e' q n c raw::(RM++KM)):=by
 intro σ R L w h b6;refine ci.sound ?_;refine fE mK h (.head _) λb1 g w h=>?_
 refine⟨_,_,_,cl (by kernel_rfl) (by decide) w,ae rfl ?_⟩;refine⟨_,_,_,cl (by kernel_rfl) (by decide) w,ae rfl ?_⟩;refine⟨_,_,_,cl (by kernel_rfl) (by decide) w,ae rfl ?_⟩;refine⟨_,_,_,cl (by kernel_rfl) (by decide) w,ae rfl ?_⟩;refine⟨_,_,_,io (by kernel_rfl) w,ag rfl ?_⟩;refine Sat.tk h λw h=>?_
 have E:oK nb s e lv t id∈((g,cel (N16.C {a8:=s,a9:=e}).toList al)::(b1,cel (N16.C {}).toList al)::(oK nb s e lv t id::fp t s' e' q n c raw::(RM++KM)++L)):= .tail _ (.tail _ (.head _))
 refine aa (aa (aa ⟨_,Sat.ld h E (i:=2) rfl,_,Sat.ld h E (i:=4) rfl,_,Sat.ld h E (i:=3) rfl,aa ⟨_,_,_,Sat.ld h (.tail _ (.tail _ (.tail _ (.head _)))) (i:=2) rfl,?_⟩⟩));have V:=h;have h:Sat σ w (RM++(KM++((g,cel (N16.C {a8:=s,a9:=e}).toList al)::(b1,cel (N16.C {}).toList al)::oK nb s e lv t id::fp t s' e' q n c raw::L))):=h.re
 refine jc b5 b4 h b7 λw U H O us y NM a7 a6 b3 h=>⟨_,_,_,rfl,?_⟩
 have h:Sat σ w ((g,cel (N16.C {a8:=s,a9:=e}).toList al)::(b1,cel (N16.C {}).toList al)::oK nb s e lv t id::((y++NM)++(fp t s' e' q n c raw::(RM++KM)++L))):=h.re
 refine⟨V.same h E (.tail _ (.tail _ (.head _))) 1,V.same h E (.tail _ (.tail _ (.head _))) 1,?_⟩;have I:=h;refine Sat.st h (k:=0) rfl (by show 0<16;decide) trivial rfl λw h=>⟨I.same h (.tail _ (.tail _ (.head _))) (.tail _ (.tail _ (.head _))) 1,I.same h (.tail _ (.tail _ (.head _))) (.tail _ (.tail _ (.head _))) 1,?_⟩
 have I:=h;refine Sat.st h (k:=0) rfl (by show 3<16;decide) trivial rfl λw h=>⟨I.same h (.tail _ (.tail _ (.head _))) (.tail _ (.tail _ (.head _))) 1,?_⟩
 refine Sat.st h (k:=0) rfl (by show 2<16;decide) trivial rfl λw h=>?_
 refine Sat.st h (k:=0) rfl (by show 7<16;decide) trivial rfl λw h=>?_
 have h:Sat σ w ((g,cel (IH.nd {kind:=5,num:=(lv:Nat),title:=id,s:=s,e:=e} U H O).C.toList al)::(b1,cel (N16.C {}).toList al)::((y++NM)++(oK nb s e lv t id::fp t s' e' q n c raw::(RM++KM)++L))):=by
  have h:Sat σ w ((g,cel (IH.nd {kind:=5,num:=(lv:Nat),title:=id,s:=s,e:=e} U H O).C.toList al)::(b1,cel (N16.C {}).toList al)::oK nb s e lv t id::((y++NM)++(fp t s' e' q n c raw::(RM++KM)++L))):=h
  exact h.re
 exact hU (v:=IH.nd {kind:=5,num:=(lv:Nat),title:=id,s:=s,e:=e} U H O) (u:= {}) (NM:=y++NM) ⟨_,xs,U,H,O,us,y,NM,rfl,rfl,rfl,⟨bZ,W,bZ,bZ⟩,a7,a6,b3⟩ h b6
def hrC (nb s e:Nat)(raw:List UInt8):ai:=(nb,cel [hY s,hY e,hX (bs raw)] jH)
theorem yj {nb s e:Nat}{raw:List UInt8}(hb:raw.length<1073741824):qu bR (.mk {kind:=9,mark:=raw,s:=s,e:=e} []) (bkV cT nb) [hrC nb s e raw]:=by
 intro σ R L w h g;refine ci.sound ?_;refine fE vV h (.head _) λb1 y w h=>?_
 refine⟨_,_,_,cl (by kernel_rfl) (by decide) w,ae rfl ?_⟩;refine⟨_,_,_,cl (by kernel_rfl) (by decide) w,ae rfl ?_⟩;refine⟨_,_,_,cl (by kernel_rfl) (by decide) w,ae rfl ?_⟩;refine⟨_,_,_,cl (by kernel_rfl) (by decide) w,ae rfl ?_⟩;refine⟨_,_,_,cl (by kernel_rfl) (by decide) w,ae rfl ?_⟩;refine⟨_,_,_,cl (by kernel_rfl) (by decide) w,ae rfl ?_⟩;refine⟨_,_,_,cl (by kernel_rfl) (by decide) w,ae rfl ?_⟩;refine⟨_,_,_,cl (by kernel_rfl) (by decide) w,ae rfl ?_⟩;refine⟨_,_,_,cl (by kernel_rfl) (by decide) w,ae rfl ?_⟩;refine⟨_,_,_,io (by kernel_rfl) w,ag rfl ?_⟩;refine yl.sound ?_;refine aa ⟨_,Sat.ld h (.tail _ (.tail _ (.head _))) (i:=2) rfl,_,rfl,?_⟩;refine Sat.st h (k:=0) rfl (by show 0<16;decide) trivial rfl λw h=>?_
 refine Sat.st h (k:=0) rfl (by show 10<16;decide) trivial rfl λw h=>?_
 exact hU (v:=IH.nd {kind:=9,mark:=raw,s:=s,e:=e} none 0 0) (u:= {}) (NM:= []) (NodeAt.leaf ⟨bZ,bZ,bZ,hb⟩) h g
def B3 (nb s:Nat)(raw:List UInt8):DB:=⟨.iface cT (kT (kE nb)),[hrC nb s s raw],[]⟩
theorem td_hr {nb s:Nat}{raw:List UInt8}(hb:raw.length<1073741824)(hs:s<1000000000):TD G op (B3 nb s raw) (.mk {kind:=9,mark:=raw,s:=s,e:=s} []):=by
 have ht:(B3 nb s raw).tree G (.mk {kind:=9,mark:=raw,s:=s,e:=s} []):=by
  intro ts ht;refine⟨_,yj (nb:=nb) (s:=s) (e:=s) hb,λa=>?_⟩;cases ht
  simp[B3,fI]
 refine⟨ht,?_,.inr ⟨_,_,rfl,by decide⟩,⟨jQ vV rfl (.head _),?_,hs,by show s<2000000000;omega⟩,λx g=>by simp[B3] at g⟩
 ·rw[d6 (d:=B3 nb s raw) rfl (by decide)];exact ht
 ·show ((s:Int).toNat,(s:Int).toNat)=(s,s)
  simp
def yg (nb t s e lv:Nat)(raw:List UInt8):DB:=⟨.iface gd (kT (kE nb)),[oK nb s e lv t []],[⟨t,s,e,raw⟩]⟩
theorem EU {nb t s e lv:Nat}{raw:List UInt8}(hs:s<1000000000)(U:e<2000000000)(y:lP (G raw))(O:js none [] op raw (G raw)):TD G op (yg nb t s e lv raw) (.mk {kind:=5,num:=(lv:Nat),s:=s,e:=e} (gO (G raw))):=by
 have ht:(yg nb t s e lv raw).tree G (.mk {kind:=5,num:=(lv:Nat),s:=s,e:=e} (gO (G raw))):=by
  intro ts ht;cases ht with
  |cons g H E=>
   cases E
   rw[<-H] at y⊢;exact⟨_,pv (nb:=nb) (t:=t) (s:=s) (e:=e) (s':=s) (e':=e) (lv:=lv) (raw:=raw) (id:= []) g.1 (eG y g.2.2) g.2.1 (by decide),λa=>by simp[yg,fI,wO]⟩
 refine⟨ht,?_,.inr ⟨_,_,rfl,by decide⟩,⟨jQ mK rfl (.head _),?_,hs,U⟩,λx I=>?_⟩
 ·rw[d6 (d:=yg nb t s e lv raw) rfl (by decide)];exact ht
 ·show ((s:Int).toNat,(e:Int).toNat)=(s,e)
  simp
 ·obtain rfl:=lR0.1 I;exact O

theorem zJ (b8:op.task=false){b6:OA->Nat->WP}{b b1 pb:Nat}{xs:List IN}{gs junk:List Bk}{top:Bk}{p:PS}{l:Ln}{s:List UInt8}(f0:Pd G op xs junk .none)(h:DocC σ b (l.at b1::L) (gs++top::junk) .none p w)(hd:p.depth=gs.length)(c8:gs.length<900000)(b7:LnR l (62::32::s))(hs:s.all cL=false)(e8: ∀g∈gs++top::junk,g.D.length<=90000)(e7:(txF (gs++top::junk)).length<=90000)(c3:p.pz=kE pb)(d0:op.at pb∈L)(d3:p.lineno<1000000000)(b4: ∀w (p':PS) y I f,p'.base=p.base->p'.lineno=p.lineno->p'.depth=p.depth+1->y.like top->y.D=top.D++I->TDs G op I xs->(cj I).length<=(txF junk).length+1->f.isQuote->f.ob.s=p.lineno->f.ob.e=p.lineno->f.D= []->
  DocC σ b (({l with i:=l.i+2}:Ln).at b1::L) (gs++ [y,f]) .none p' w->b6 (kE b) b1 w):aj.bl102 R b6 (kE b) b1 w:=by
 obtain⟨b5,W⟩:=b7.quote;generalize ({l with i:=l.i+2}:Ln)=l2 at b5 W b4;have c9:l2.blank=false:=by unfold Ln.blank;rw[W.tx];exact hs
 obtain⟨M,U,f6,g2,c5,c4,d1,⟨rfl,rfl⟩,h⟩:=h;have h:Sat σ w (p.at b::M++(l.at b1::(U++(aM (gs++top::junk)++L)))):=h.re
 refine jr 0 (by decide) h (λj _ e5=>absurd e5 (by omega)) W.ok c9 λw nb e e2 h e1=>?_
 show callE P jZ _ e2 w
 refine nL.sound ?_;refine Sat.bx h λb2 w h=>?_
 refine Sat.bx h λE w h=>?_
 repeat (first|refine aa ?_|refine h.tk λw h=>?_|refine⟨_,h.ldA,?_⟩|refine⟨_,_,_,h.ldA,?_⟩)
 have h:Sat σ _ (zLn E::l.at b2::(p.at b::M++(l.at b1::(nb,cel newsC e)::(U++(aM (gs++top::junk)++L))))):=h
 refine mH h b7.ok ?_;rw[b5];intro w h;refine⟨_,_,_,_,_,_,rfl,?_⟩;refine Sat.bx h λH w h=>?_
 refine h.stA 0 λw h=>?_
 refine h.stA 0 λw h=>?_
 refine h.stA 0 λw h=>?_
 refine h.stA 0 λw h=>?_
 refine h.stA 0 λw h=>?_
 refine ag rfl ?_;refine Sat.bx h λa6 w h=>?_
 have h:Sat σ w (E8 a6::l2.at H::zLn E::l.at b2::(p.at b::M++(l.at b1::(nb,cel newsC e)::(U++(aM (gs++top::junk)++L))))):=h
 have c1:DocC σ b (E8 a6::(zLn E::l2.at H::l.at b1::L)) (gs++top::junk) .none p w:=⟨M,U,[],[],c5,c4,d1,⟨rfl,rfl⟩,h.less [l.at b2,(nb,cel newsC e)]⟩
 refine pH (pb:=pb) (f0.close b8) (.tail _ (.tail _ (.tail _ d0))) c3 e8 e7 c1 hd c8 d3 λw p' y I f e6 e0 e4 k1 k2 k3 k4 a7 e9 e3 g1 h=>⟨rfl,?_⟩
 obtain⟨V,O,f5,g0,d2,b9,c2,⟨rfl,rfl⟩,h⟩:=h;have h:Sat σ w (zLn E::l2.at H::l.at b1::(p'.at b::V++(O++(aM (gs++ [y,f])++L)))):=h.re
 repeat (first|refine aa ?_|refine h.tk λw h=>?_|refine⟨_,h.ldA,?_⟩|refine⟨_,_,_,h.ldA,?_⟩|refine h.stA 0 λw h=>?_|refine h.stA 1 λw h=>?_|refine h.stA 2 λw h=>?_|refine h.stA 3 λw h=>?_|refine h.stA 4 λw h=>?_|refine h.stA 5 λw h=>?_|refine h.stA 6 λw h=>?_|refine h.bx λb0 w h=>?_)
 have h:Sat σ _ (l2.at E::l2.at H::l.at b1::(p'.at b::(V++(O++(aM (gs++ [y,f])++L))))):=h
 have h:Sat σ _ (l.at b1::p'.at b::(V++(O++(aM (gs++ [y,f])++L)))):=h.less [l2.at E,l2.at H]
 refine e1 _ _ p' (by omega) h λw h=>?_
 refine b4 w {p' with depth:=p'.depth+1} y I f e6 e0 (by show p'.depth+1=_;rw[e4]) k1 k2 k3 k4 ⟨a6,by rw[a7];rfl,e9⟩ (by rw[a7]) (by rw[a7]) e3 ⟨V,O,[],[],d2.of rfl rfl rfl,b9.of rfl rfl rfl,c2,⟨rfl,rfl⟩,h.re⟩
theorem Fa (b6:op.task=false){e5:OA->Nat->WP}{b b1 pb:Nat}{xs:List IN}{gs junk:List Bk}{top:Bk}{p:PS}{l:Ln}(V:Pd G op xs junk .none)(h:DocC σ b (l.at b1::L) (gs++top::junk) .none p w)(hd:p.depth=gs.length)(b4:gs.length<900000)(ht:top.np)(U:l.ok)(e4:l.quote=none)(e2:l.heading=none)(c5:l.isHR=true)(e3: ∀g∈gs++top::junk,g.D.length<=90000)(e1:(txF (gs++top::junk)).length<=90000)(c2:p.pz=kE pb)(c4:op.at pb∈L)(e9:p.lineno<1000000000)(O: ∀w (p':PS) y I nb,p'.base=p.base->p'.lineno=p.lineno->y.like top->y.D=top.D++(I++ [B3 nb p.lineno l.str])->TDs G op I xs->(cj I).length<=(txF junk).length+1->DocC σ b L (gs++ [y]) .none p' w->R (hQ (.tuple #[])) w):
 aj.bl102 R e5 (kE b) b1 w:=by
 obtain⟨M,H,e7,f2,W,c3,c8,⟨rfl,rfl⟩,h⟩:=h;rw[lG0] at W;have h:Sat σ w (p.at b::M++(l.at b1::(H++(aM (gs++top::junk)++L)))):=h.re
 have b7:=nC (b:=b) (l:=l) W hd b4 ht V.next (V.last rfl gs top ht) U
 refine nT 3 (by decide) h ?_ λw nb e d3 h d2=>?_
 ·intro j f1 d0 σ w L R h O
  match j,d0 with
  |0,_=>exact ip (x:= .nilIface) h U e4 O
  |1,_=>exact lw h U e2 O
  |2,_=>exact b7 σ w L R h O
 show callE P qd _ d3 w
 refine uX.sound ?_;refine Sat.bx h λb2 w h=>?_
 refine Sat.bx h λE w h=>?_
 repeat (first|refine aa ?_|refine h.tk λw h=>?_|refine⟨_,h.ldA,?_⟩|refine⟨_,_,_,h.ldA,?_⟩)
 have h:Sat σ _ (zLn E::l.at b2::(p.at b::M++(l.at b1::(nb,cel newsC e)::(H++(aM (gs++top::junk)++L))))):=h
 refine BP (l:=l) h U λw h=>⟨_,rfl,?_⟩
 rw[c5];refine ag rfl ?_;have h:Sat σ w (p.at b::(zLn E::l.at b2::(M++(l.at b1::(nb,cel newsC e)::(H++(aM (gs++top::junk)++L)))))):=h.re
 refine Sat.tk h λw h=>aa (aa ⟨_,Sat.ld h (.head _) (i:=3) rfl,_,Sat.ld h (.head _) (i:=3) rfl,?_⟩)
 have b5:=h;refine o5 h (.tail _ (.tail _ (.head _))) U λw h=>⟨_,rfl,b5.same h (.head _) (.head _) 1,b5.same h (.head _) (.head _) 1,?_⟩
 refine Sat.bx h λhb w h=>?_
 have h:Sat σ w (hrC hb p.lineno p.lineno l.str::p.at b::(zLn E::l.at b2::(M++(l.at b1::(nb,cel newsC e)::(H++(aM (gs++top::junk)++L)))))):=h
 have b9:DocE σ b ((B3 hb p.lineno l.str).own++((B3 hb p.lineno l.str).txs.map TX.chunk++(zLn E::l.at b1::L))) (B3 hb p.lineno l.str).txs (gs++top::junk) p w:=by
  refine⟨M,H,[],[],by rw[lG0];exact W,?_,c8,⟨rfl,rfl⟩,?_⟩
  ·show Txts p ((txF (gs++top::junk)++ []).map TX.t) H
   rw[lG0];exact c3
  ·show Sat σ w (p.at b::M++(H++(aM (gs++top::junk)++([]++([hrC hb p.lineno p.lineno l.str]++([]++(zLn E::l.at b1::L)))))))
   exact h.less [l.at b2,(nb,cel newsC e)]
 refine qp (pb:=pb) (d:=B3 hb p.lineno l.str) (V.closeE b6 rfl) (.tail _ (.tail _ c4)) c2 e3 e1 b9 hd b4 rfl V.len λw p' y I e0 f0 d1 k1 k2 k3 k4 h=>⟨rfl,?_⟩
 obtain⟨a7,a6,e6,e8,c9,b8,c1,⟨rfl,rfl⟩,h⟩:=h;have h:Sat σ w (zLn E::l.at b1::(p'.at b::a7++(a6++(aM (gs++ [y])++L)))):=h.re
 repeat (first|refine aa ?_|refine h.tk λw h=>?_|refine⟨_,h.ldA,?_⟩|refine⟨_,_,_,h.ldA,?_⟩|refine h.stA 0 λw h=>?_|refine h.stA 1 λw h=>?_|refine h.stA 2 λw h=>?_|refine h.stA 3 λw h=>?_|refine h.stA 4 λw h=>?_|refine h.stA 5 λw h=>?_|refine h.stA 6 λw h=>?_|refine h.bx λb0 w h=>?_)
 have h:Sat σ _ (zLn E::l.at b1::(p'.at b::a7++(a6++(aM (gs++ [y])++L)))):=h
 refine d2 _ _ h.tail λw h=>?_
 exact O w p' y I hb e0 d1 k1 k2 k3 k4 ⟨a7,a6,[],[],c9,b8,c1,⟨rfl,rfl⟩,h.re⟩

theorem LnR.hashes {c:UInt8}{r:List UInt8}(hc:c≠35): ∀(j k n:Nat) {l:Ln},j<=k->LnR l (hN j 35++c::r)->l.hashes k n=(n+j,{l with i:=l.i+j})
 |0,0,n,l,_,h=>by simp[Ln.hashes]
 |0,k+1,n,l,_,h=>by
  have h:LnR l (c::r):=h
  have e:l.trimC 35=none:=by rw[h.has.trimC,if_neg hc]
  simp[Ln.hashes,e]
 |j+1,0,n,l,hj,h=>absurd hj (by omega)
 |j+1,k+1,n,l,hj,h=>by
  have h:LnR l (35::(hN j 35++c::r)):=by rw[lX1] at h;exact h
  have e:l.trimC 35=some {l with i:=l.i+1}:=by rw[h.has.trimC,if_pos rfl]
  have g:=LnR.hashes hc j k (n+1) (by omega) (LnR.skip (a:= [35]) h);simp only[Ln.hashes,e];refine g.trans ?_
  show (n+1+j,({l with i:=l.i+1+j}:Ln))=(n+(j+1),{l with i:=l.i+(j+1)})
  rw[lU3 n,lU3 l.i,lD3,lD3]
theorem LnR.heading {l:Ln}{n:Nat}{s:List UInt8}(V:1<=n/\n<=6)(h:LnR l (hN n 35++32::s)):l.heading=some (n,{l with i:=l.i+(n+1)})/\LnR {l with i:=l.i+(n+1)} s/\l.quote=none/\l.blank=false:=by
 obtain⟨j,rfl⟩: ∃j,n=j+1:=⟨n - 1,by omega⟩
 have H:LnR l (35::(hN j 35++32::s)):=by rw[lX1] at h;exact h
 have g:=H.has;have I:l.lead 3 false=l:=g.lead (by decide) 2 false;have O:=LnR.skip (a:= [35]) H;have E:=LnR.hashes (c:=32) (r:=s) (by decide) j 5 1 (by omega) O
 have y:=LnR.skip O;rw[lG2] at y;have U:({l with i:=l.i+1+j}:Ln).has 32 s:=y.has
 refine⟨?_,?_,?_,g.blank (by decide)⟩
 ·unfold Ln.heading;rw[I,g.trimC,if_pos rfl]
  show (((Ln.hashes 5 1 {l with i:=l.i+1}).2.trimSp 1 1 true).map λt'=>((Ln.hashes 5 1 {l with i:=l.i+1}).1,t'))=_
  have E:Ln.hashes 5 1 {l with i:=l.i+1}=(1+j,{l with i:=l.i+1+j}):=E
  rw[E]
  show ((Ln.trimSp 1 1 true {l with i:=l.i+1+j}).map λt'=>(1+j,t'))=_
  rw[U.sp1]
  show some (1+j,({l with i:=l.i+1+j+1}:Ln))=some (j+1,{l with i:=l.i+(j+1+1)})
  rw[lQ4 1 j];have:l.i+1+j+1=l.i+(j+1+1):=by omega
  rw[this]
 ·have:=LnR.skip (a:= [32]) y;have e:l.i+1+j+1=l.i+(j+1+1):=by omega
  show LnR {l with i:=l.i+(j+1+1)} s
  rw[<-e];exact this
 ·unfold Ln.quote;rw[I,g.trimC,if_neg (by decide)];rfl
theorem Be (e1:op.task=false)(e3:op.ids=false){g5:OA->Nat->WP}{b b1 pb lv:Nat}{xs:List IN}{gs junk:List Bk}{top:Bk}{p:PS}{l b5:Ln}{m:List UInt8}{E:UInt8}(d1:Pd G op xs junk .none)(h:DocC σ b (l.at b1::L) (gs++top::junk) .none p w)(hd:p.depth=gs.length)(e9:gs.length<900000)(d2:l.ok)(g4:l.quote=none)(g2:l.heading=some (lv,b5))(b7:LnR b5 (m++ [E]))(b6:cL E=false/\E≠35)(h4:m.length<100000)(g3: ∀g∈gs++top::junk,g.D.length<=90000)(g1:(txF (gs++top::junk)).length<=90000)(c2:p.pz=kE pb)(c4:op.at pb∈L)(h5:p.lineno<1000000000)(b9: ∀w (p':PS) H V nb t,p'.base=p.base->p'.lineno=p.lineno->H.like top->H.D=top.D++(V++ [yg nb t p.lineno p.lineno lv (m++ [E])])->TDs G op V xs->(cj V).length<=(txF junk).length+1->DocC σ b L (gs++ [H]) .none p' w->R (hQ (.tuple #[])) w):
 aj.bl102 R g5 (kE b) b1 w:=by
 obtain⟨M,O,g7,h8,c3,e8,f0,⟨rfl,rfl⟩,h⟩:=h;rw[lG0] at c3;have e4:b5.str=m++ [E]:=by unfold Ln.str;rw[b7.sp,b7.tx];rfl
 have h:Sat σ w (p.at b::M++(l.at b1::(O++(aM (gs++top::junk)++L)))):=h.re
 refine nT 1 (by decide) h ?_ λw nb e f6 h f5=>?_
 ·intro j h7 f3 σ w L R h b9
  match j,f3 with
  |0,_=>exact ip (x:= .nilIface) h d2 g4 b9
 show callE P fh _ f6 w
 refine cG.sound ?_;refine Sat.bx h λb2 w h=>?_
 refine Sat.bx h λy w h=>?_
 repeat (first|refine aa ?_|refine h.tk λw h=>?_|refine⟨_,h.ldA,?_⟩|refine⟨_,_,_,h.ldA,?_⟩)
 refine Sat.bx h λc5 w h=>?_
 repeat (first|refine aa ?_|refine h.tk λw h=>?_|refine⟨_,h.ldA,?_⟩|refine⟨_,_,_,h.ldA,?_⟩|refine h.stA 0 λw h=>?_|refine h.stA 1 λw h=>?_|refine h.stA 2 λw h=>?_|refine h.stA 3 λw h=>?_|refine h.stA 4 λw h=>?_|refine h.stA 5 λw h=>?_|refine h.stA 6 λw h=>?_|refine h.bx λb0 w h=>?_)
 have h:Sat σ _ ((b0,cel [hY 0] bg)::l.at c5::zLine.at y::l.at b2::(p.at b::M++(l.at b1::(nb,cel newsC e)::(O++(aM (gs++top::junk)++L))))):=h
 refine n9 h.up1 d2 ?_;rw[g2];intro w h;refine⟨_,rfl,ag rfl ?_⟩;refine o5 h (.head _) b7.ok λw h=>⟨_,rfl,?_⟩
 rw[e4];refine tu (by simp;omega) ⟨_,rfl,?_⟩;rw[yP b6.1];refine sS (by omega) b6.2 h λw h=>⟨_,rfl,?_⟩
 refine tu (by simp;omega) ⟨_,rfl,?_⟩;rw[yP b6.1];refine ae (by simp only[cX];rw[gi];simp) ?_;unfold cG.k1;have h:Sat σ w (p.at b::(zLine.at y::(b0,cel [hY lv] bg)::(M++(l.at b1::(O++(aM (gs++top::junk)++L)))))):=h.less [b5.at c5,l.at b2,(nb,cel newsC e)]
 refine aa ⟨_,Sat.ld h (.head _) rfl,?_⟩;rw[c2];refine aa ⟨op.ids,Sat.ld h (b:=pb) (i:=0) (by simp[c4]:op.at pb∈_) rfl,?_⟩;rw[e3];refine ae rfl ?_;unfold cG.k2;refine Sat.tk h λw h=>aa (aa ?_)
 refine⟨_,Sat.ld h (.head _) (i:=3) rfl,_,Sat.ld h (.head _) (i:=3) rfl,?_⟩;have d3:=h;refine Sat.bx h λI w h=>?_
 refine⟨d3.same h (.head _) (.tail _ (.head _)) 1,d3.same h (.head _) (.tail _ (.head _)) 1,?_⟩;have h:Sat σ w ((I,cel [hY 0,hY 0] aF)::(p.at b::(zLine.at y::(b0,cel [hY lv] bg)::(M++(l.at b1::(O++(aM (gs++top::junk)++L))))))):=h
 refine h.stA 0 λw h=>?_
 refine h.stA 0 λw h=>?_
 have h:Sat σ w ((I,cel [hY p.lineno,hY p.lineno] aF)::(b0,cel [hY lv] bg)::(p.at b::(zLine.at y::(M++(l.at b1::(O++(aM (gs++top::junk)++L))))))):=by
  have h:Sat σ w ((I,cel [hY p.lineno,hY p.lineno] aF)::(p.at b::(zLine.at y::(b0,cel [hY lv] bg)::(M++(l.at b1::(O++(aM (gs++top::junk)++L))))))):=h
  exact h.re
 refine Sat.tk h λw h=>?_
 refine⟨_,Sat.ld h (.head _) (i:=0) rfl,_,Sat.ld h (.head _) (i:=1) rfl,_,Sat.ld h (.tail _ (.head _)) (i:=0) rfl,_,Sat.ld h (.head _) (i:=0) rfl,_,Sat.ld h (.head _) (i:=1) rfl,?_⟩;have c9:=h;have h:Sat σ _ (p.at b::O++(M++((I,cel [hY p.lineno,hY p.lineno] aF)::(b0,cel [hY lv] bg)::zLine.at y::l.at b1::(aM (gs++top::junk)++L)))):=h.re
 refine tK h e8 (by simp;omega) λw W a6 t U f1 h=>⟨_,rfl,?_⟩
 have h:Sat σ w ((I,cel [hY p.lineno,hY p.lineno] aF)::(b0,cel [hY lv] bg)::(W.at b::M++(a6++(fp t p.lineno p.lineno none 0 0 (m++ [E])::zLine.at y::l.at b1::(aM (gs++top::junk)++L))))):=h.re
 refine⟨c9.same h (.tail _ (.head _)) (.tail _ (.head _)) 1,c9.same h (.head _) (.head _) 2,?_⟩;refine Sat.bx h λhb w h=>?_
 have h:Sat σ w (oK hb p.lineno p.lineno lv t []::(I,cel [hY p.lineno,hY p.lineno] aF)::(b0,cel [hY lv] bg)::(W.at b::M++(a6++(fp t p.lineno p.lineno none 0 0 (m++ [E])::zLine.at y::l.at b1::(aM (gs++top::junk)++L))))):=h
 generalize a7:yg hb t p.lineno p.lineno lv (m++ [E])=d;have e0:d.own= [oK hb p.lineno p.lineno lv t []]:=by rw[<-a7];rfl
 have e5:d.txs= [⟨t,p.lineno,p.lineno,m++ [E]⟩]:=by rw[<-a7];rfl
 have e6:DocE σ b (d.own++(d.txs.map TX.chunk++(zLine.at y::l.at b1::L))) d.txs (gs++top::junk) W w:=by
  rw[e0,e5];refine⟨M,a6,[],[],by rw[lG0];exact c3.of (by rw[U]) (by rw[U]) (by rw[U]),?_,f0,⟨rfl,rfl⟩,?_⟩
  ·rw[lV0];exact f1
  ·show Sat σ w (W.at b::M++(a6++(aM (gs++top::junk)++([]++([oK hb p.lineno p.lineno lv t []]++([fp t p.lineno p.lineno none 0 0 (m++ [E])]++(zLine.at y::l.at b1::L)))))))
   exact h.less [(I,cel [hY p.lineno,hY p.lineno] aF),(b0,cel [hY lv] bg)]
 have c8:W.base=p.base:=by rw[U];rfl
 refine qp (pb:=pb) (d1.closeE e1 rfl) (.tail _ (.tail _ c4)) (by rw[<-c2];exact oQ c8) g3 g1 e6 (by rw[U];exact hd) e9 (by rw[<-a7];rfl) d1.len λw p' H V g0 h6 f4 k1 k2 k3 k4 h=>⟨rfl,?_⟩
 obtain⟨c1,b8,g6,h2,f2,e2,e7,⟨rfl,rfl⟩,h⟩:=h;have h:Sat σ w (zLine.at y::l.at b1::(p'.at b::c1++(b8++(aM (gs++ [H])++L)))):=h.re
 repeat (first|refine aa ?_|refine h.tk λw h=>?_|refine⟨_,h.ldA,?_⟩|refine⟨_,_,_,h.ldA,?_⟩|refine h.stA 0 λw h=>?_|refine h.stA 1 λw h=>?_|refine h.stA 2 λw h=>?_|refine h.stA 3 λw h=>?_|refine h.stA 4 λw h=>?_|refine h.stA 5 λw h=>?_|refine h.stA 6 λw h=>?_|refine h.bx λb0 w h=>?_)
 have h:Sat σ _ (zLine.at y::l.at b1::(p'.at b::c1++(b8++(aM (gs++ [H])++L)))):=h
 refine f5 _ _ h.tail λw h=>?_
 refine b9 w p' H V hb t (g0.trans c8) (f4.trans (by rw[U])) k1 (by rw[a7];exact k2) k3 k4 ⟨c1,b8,[],[],f2,e2,e7,⟨rfl,rfl⟩,h.re⟩

theorem Pd.leaf {xs:List IN}{junk:List Bk}{lf:Leaf}(h:Pd G op xs junk lf):lf= .none\/ ∃s ls,lf=oH s ls:=by
 induction h with
 |none=>exact .inl rfl
 |para _=>exact .inr ⟨_,_,rfl⟩
 |quote _ _ _ g=>exact g
 |list _ _ _ _ _ _ _ _ g=>exact g
theorem Pd.topOf {xs:List IN}{junk:List Bk}{lf:Leaf}{pre:List Bk}{f:Bk}{y:List OB}{O:List ai}(h:Pd G op xs junk lf)(a6:f.np)(E:CN lf y O):
 ∃g o t v,(pre++f::junk).map Bk.ob++y=g++ [o]/\o.bd= .iface t v/\(t=ar-> ∃q,v= kT q):=by
 rcases h.leaf with rfl|⟨s,ls,rfl⟩
 ·obtain⟨rfl,_⟩:=E;obtain⟨g,o,t,v,I,V,U⟩:=h.last rfl pre f a6;exact⟨g,o,t,v,by rw[I];simp,V,λW=>absurd W U⟩
 ·obtain⟨H,e,rfl,_⟩:=E;exact⟨(pre++f::junk).map Bk.ob,jM H s e,_,_,rfl,rfl,λ_=>⟨_,rfl⟩⟩
theorem Bn (m3:op.task=false){i1:OA->Nat->WP}{b b1 pb lb e1 v9 n:Nat}{num:Int}{it:OA}{xs e5:List IN}{gs junk:List Bk}{top f y:Bk}{lf:Leaf}{p:PS}{l l2:Ln}{x c d:UInt8}{r r2:List UInt8}(u1:Runs R i1 b b1)(h4:Pd G op e5 junk lf)(h:DocC σ b (l.at b1::L) (gs++top::f::y::junk) lf p w)(hd:p.depth=gs.length)(y1:gs.length<90000)(ht:top.box_)(w6:f.isList lb c.toNat num it)(j0:ItemOf it y lb e1 true)(r7:TDs G op y.D xs)(b8:l.has x r)(hc:xe x)(h8:l.isHR=false)(o0:pL l c v9 n l2)(h2:l2.has d r2)(s1:cL d=false)(d0: ∀k∈gs++top::f::y::junk,k.D.length<=90000)(v2:(txF (gs++top::f::y::junk)).length<=90000)(r1:p.pz=kE pb)(t5:op.at pb∈L)(r8:p.lineno<1000000000)(c9: ∀(X:OA->Nat->WP),(∀k0 m1 w,aj.bl102 R X k0 m1 w->X k0 m1 w)-> ∀w (p':PS) c5 O (I:IT) h7,p'.base=p.base->p'.lineno=p.lineno->p'.depth=p.depth+2->c5.isList lb c.toNat num h7->c5.ob.s=f.ob.s->c5.D=f.D++ [I.db]->I.ok->TDs G op I.D (xs++e5)->I.s=y.ob.s->I.e=y.ob.e->I.wd=e1->
  (cj I.D).length<=(txF (y::junk)).length+1->ItemOf h7 O lb n true->O.D= []->O.ob.s=p.lineno->O.ob.e=p.lineno->DocC σ b (l2.at b1::L) (gs++top::c5:: [O]) .none p' w->X (kE b) b1 w):aj.bl102 R i1 (kE b) b1 w:=by
 have m8:cL x=false:=hc.1;have h5:=h2.blank s1;have g6:=j0;obtain⟨ib,w9,s7,x9⟩:=j0;obtain⟨d2,s5⟩:=w6;obtain⟨y3,x7,t6,x6,t9⟩:=ht;obtain⟨M,b4,b9,b7,hs,t0,c8,i0,h⟩:=h;obtain⟨z3,o,z2,y4,e6,h6,h3⟩:=h4.topOf (pre:=gs++ [top,f]) (f:=y) g6.box_.np i0;have w3:gs++top::f::y::junk=(gs++ [top,f])++y::junk:=by simp
 have g1:((gs++top::f::y::junk).map Bk.ob++b9)[gs.length]? =some top.ob:=by rw[lM0 (by simp)];simp
 have d1:((gs++top::f::y::junk).map Bk.ob++b9)[gs.length+1]? =some f.ob:=by rw[lM0 (by simp)];simp
 have e8:((gs++top::f::y::junk).map Bk.ob++b9)[gs.length+2]? =some y.ob:=by rw[lM0 (by simp)];simp
 generalize f6:(gs++top::f::y::junk).map Bk.ob++b9=obs at hs g1 d1 e8;rw[<-w3,f6] at e6;have g2: ∀(k:Bk),k.IM=f.IM->k.D=f.D->aM (gs++top::k::y::junk)=aM (gs++ [top])++(f.IM++(k.own++(cV f.D++txc f.D))++aM (y::junk)):=by
  intro k k1 k2;have:gs++top::k::y::junk=(gs++ [top])++([k]++(y::junk)):=by simp
  rw[this,bh,bh [k],dy,k1,k2]
 have g0: ∀(p2:PS) (M:List ai) (j:Nat),j<2->Stk p2 obs M->p2.depth=((gs.length+j:Nat):Int)->AD b p2 M l cg:=by
  intro p2 M j w1 f1 g3 σ w L R i3 j1;rw[e6] at f1;rw[e6] at d1 e8
  match j,w1 with
  |0,_=>exact kF (d:=gs.length) i3 f1 g3 (by omega) d1 d2 (by decide) h6 h3 b8.ok j1
  |1,_=>exact kF (d:=gs.length+1) i3 f1 g3 (by omega) e8 s7 (by decide) h6 h3 b8.ok j1
 have h:Sat σ w (p.at b::M++(l.at b1::(b4++(aM (gs++top::f::y::junk)++(b7++L))))):=h.re
 refine jr (l2:=l) 4 (by decide) h (jq (g0 p M 0 (by decide) hs (by rw[hd];rfl)) b8 hc h8) b8.ok (b8.blank m8) λw nb e f2 h H=>?_
 show callE P cm _ f2 w
 rw[g2 f rfl rfl,s5] at h;have h:Sat σ w (p.at b::M++(cM lb c.toNat num false it .nilFunc::(l.at b1::(nb,cel newsC e)::(b4++(aM (gs++ [top])++(f.IM++(cV f.D++txc f.D)++aM (y::junk))++(b7++L)))))):=h.re
 refine uH (d:=gs.length) h hs hd (by omega) g1 t6 t9 d1 d2 b8.ok o0 λw W a6 U V c4 h=>?_
 rw[h5,show (!false)=true from rfl] at h;have h:Sat σ w (l.at b1::p.at b::(M++(cM lb c.toNat num false it (ku W V U a6)::(fm b W a6 U V lb c4 n true l2++((nb,cel newsC e)::(b4++(aM (gs++ [top])++(f.IM++(cV f.D++txc f.D)++aM (y::junk))++(b7++L)))))))):=by
  have h:Sat σ w (p.at b::M++(cM lb c.toNat num false it (ku W V U a6)::(fm b W a6 U V lb c4 n true l2++(l.at b1::(nb,cel newsC e)::(b4++(aM (gs++ [top])++(f.IM++(cV f.D++txc f.D)++aM (y::junk))++(b7++L))))))):=h
  exact h.re
 refine H w _ p (by omega) h λw h=>?_
 refine u1 w λX q0=>?_
 let b5:PS:= {p with depth:=p.depth+1}
 let E:Bk:=⟨f.ob,[cM lb c.toNat num false it (ku W V U a6)],f.D,f.IM⟩
 have g4:Stk b5 obs M:=hs.of rfl rfl rfl;have h:Sat σ w (b5.at b::M++(l.at b1::(fm b W a6 U V lb c4 n true l2++((nb,cel newsC e)::(b4++(aM (gs++top::E::y::junk)++(b7++L))))))):=by
  rw[g2 E rfl rfl,show E.own= [cM lb c.toNat num false it (ku W V U a6)] from rfl];have h:Sat σ w (l.at b1::b5.at b::(M++(cM lb c.toNat num false it (ku W V U a6)::(fm b W a6 U V lb c4 n true l2++((nb,cel newsC e)::(b4++(aM (gs++ [top])++(f.IM++(cV f.D++txc f.D)++aM (y::junk))++(b7++L)))))))):=h
  exact h.re
 refine jr (l2:=l2) 4 (by decide) h (jq (g0 b5 M 1 (by decide) g4 (by show p.depth+1=_;rw[hd];rfl)) b8 hc h8) h2.ok h5 λw e9 f5 w4 h r6=>?_
 show callE P cm _ w4 w
 have n3: ∀k∈(gs++ [top])++E::(y::junk),Bk.ok k:=by
  intro k H;simp only[lD0,lO0,lX0,lJ1,or_false,lQ0,lT0] at H;rcases H with H|rfl|rfl|rfl|H
  ·exact c8 _ (by simp[H])
  ·exact c8 _ (by simp)
  ·exact c8 f (by simp)
  ·exact c8 _ (by simp)
  ·exact c8 _ (by simp[H])
 have v6:gs++top::E::y::junk=(gs++ [top])++E::(y::junk):=by simp
 have h0:txF ((gs++ [top])++E::(y::junk))=txF (gs++top::f::y::junk):=by simp[txF,E]
 have r4:DocC σ b (fm b W a6 U V lb c4 n true l2++(l.at b1::(e9,cel newsC f5)::(nb,cel newsC e)::L)) ((gs++ [top])++E::(y::junk)) lf b5 w:=by
  refine⟨M,b4,b9,b7,?_,?_,n3,i0,?_⟩
  ·have:((gs++ [top])++E::(y::junk)).map Bk.ob++b9=obs:=by rw[<-f6];simp[E]
   rw[this];exact g4
  ·rw[h0];exact t0.of rfl rfl rfl
  ·rw[<-v6];exact h.re
 have h1: ∀k∈((gs++ [top])++ [E])++y::junk,k.D.length<=90000:=by
  intro k H;simp only[lD0,lO0,lX0,lJ1,or_false,lQ0,lT0] at H;rcases H with H|rfl|rfl|rfl|H
  ·exact d0 _ (by simp[H])
  ·exact d0 _ (by simp)
  ·exact d0 f (by simp)
  ·exact d0 _ (by simp)
  ·exact d0 _ (by simp[H])
 have s9:(txF (((gs++ [top])++ [E])++y::junk)).length<=90000:=by
  have:((gs++ [top])++ [E])++y::junk=(gs++ [top])++E::(y::junk):=by simp
  rw[this,h0];exact v2
 refine F4 (Post:=λy5 e7=>e7.ob.s=f.ob.s/\ ∃I:IT,e7.D=f.D++ [I.db]/\I.ok/\TDs G op I.D (xs++e5)/\I.s=y.ob.s/\I.e=y.ob.e/\I.wd=e1/\(cj I.D).length<=(txF (y::junk)).length+1) (l:=l) r4 ⟨d2,rfl⟩ (by show p.depth+1=_;rw[hd];simp) (by simp;omega) r8 (λd3 f2 w t4 h H=>?_) λw b6 f4 e7 b3 O m4 v8 i2 v3 m5 m2 o4 t3 m6 t8 s6 h=>?_
 ·have w2:(((gs++ [top]).length:Int)+1)=(((gs++ [top]).length+1:Nat):Int):=by omega
  rw[w2];refine vE h (by simp;omega) λX c9=>?_
  have h:DocC σ b d3 (((gs++ [top])++ [E])++y::junk) lf b5 w:=by simpa using h
  have o3:op.at pb∈d3:=t4 _ (lB0 _ (.tail _ (.tail _ (.tail _ t5))))
  refine h4.close m3 σ f2 d3 b pb b5 w X ((gs++ [top])++ [E]) y ((gs++ [top]).length+1) c9 o3 r1 (by simp) h1 s9 h λw f4 a7 z1 r5 s8 t7 f0 g7 u0 x1 h=>?_
  have h:DocC σ b d3 ((gs++ [top])++ [E,a7]) .none f4 w:=by simpa using h
  refine oY c9 h (by simp) ?_;have w8:=h1 E (by simp);refine ub h (f0.itemOf g6).item (⟨d2,rfl⟩:E.isListT lb c.toNat num it (ku W V U a6)) (by omega) λw c5 nb x s4 r3 y2 t2 o2 h=>⟨_,rfl,?_⟩
  refine vF c9 h (by simp) ?_;refine H w {f4 with stn:=(gs++ [top]).length+1} c5 none ⟨r3,IT.mk nb a7.ob.s a7.ob.e a7.ob.q a7.ob.n a7.ob.c e1 a7.IM a7.D,t2,o2,?_,f0.2.1,f0.2.2.1,rfl,?_⟩ r5 t7 s8 s4 h
  ·show TDs G op a7.D (xs++e5)
   rw[g7];exact r7.append u0
  ·show (cj a7.D).length<=_
   have v4:txF (y::junk)=cj y.D++txF junk:=by simp[txF]
   rw[g7,de,v4];simp only[lA0];omega
 ·have s3:b6.depth=((gs.length+1:Nat):Int):=by rw[v3];show p.depth+1=_;rw[hd];omega
  have x4:b6.lineno=p.lineno:=i2;obtain⟨i8,h9,w7,x8,s2,r9,n2,⟨rfl,rfl⟩,h⟩:=h;have h:Sat σ w (l.at b1::b6.at b::(i8++(h9++(aM ((gs++ [top])++ [b3,O])++([]++((e9,cel newsC f5)::(nb,cel newsC e)::L)))))):=h.re
  refine r6 w _ b6 (by omega) h λw h=>?_
  obtain⟨w5,I,u8,v0,u2,v5,q6,q7,v7⟩:=m4;refine c9 X q0 w {b6 with depth:=b6.depth+1} b3 O I (kE c4) v8 i2 (by show b6.depth+1=_;rw[s3,hd];omega) m5 (by rw[m2];exact w5) (by rw[o4];exact u8) v0 u2 v5 q6 q7 v7 t3 m6 t8 s6 ⟨i8,h9,[],[],?_,?_,?_,⟨rfl,rfl⟩,?_⟩
  ·have:(gs++top::b3:: [O]).map Bk.ob++ []=((gs++ [top])++ [b3,O]).map Bk.ob++ []:=by simp
   rw[this];exact s2.of rfl rfl rfl
  ·have:txF (gs++top::b3:: [O])=txF ((gs++ [top])++ [b3,O]):=by simp[txF]
   rw[this];exact r9.of rfl rfl rfl
  ·intro k H;exact n2 k (by simpa using H)
  ·have:aM (gs++top::b3:: [O])=aM ((gs++ [top])++ [b3,O]):=by simp[aM]
   rw[this];exact h.less [(e9,cel newsC f5),(nb,cel newsC e)]

theorem vK (c8:op.task=false){b b1 pb W num n:Nat}{num0:Int}{b5:OA}{xs:List IN}{gs U:List Bk}{top O:Bk}{p:PS}{l t:Ln}{c c0:UInt8}(g5:Pd G op xs (O::U) .none)(c1:O.isList W c0.toNat num0 b5)(e2:c0≠c)(h:DocC σ b (l.at b1::L) (gs++top::O::U) .none p w)(hd:p.depth=gs.length)(h2:gs.length<90000)(g3: ∀g∈gs++top::O::U,g.D.length<=90000)(g2:(txF (gs++top::O::U)).length<=90000)(d2:p.pz=kE pb)(e1:op.at pb∈L)(e7:p.lineno<1000000000)(h5:l.ok)(hb:pL l c num n t)(e9: ∀w (p':PS) y b3 f lb I H E V ib,p'.base=p.base->p'.lineno=p.lineno->p'.depth=p.depth->y.like top->y.D=top.D++b3->TDs G op b3 xs->(cj b3).length<=(txF (O::U)).length+1->f.ob=⟨BB lb,none,0,0,p.lineno,p.lineno⟩->f.own= [cM lb c.toNat (num:Nat) false none (ku I V E H)]->f.D= []->f.IM= []->
  DocC σ b (l.at b1::(fm b I H E V lb ib n (!t.blank) t++L)) (gs++ [y,f]) .none p' w->R (hQ (hV true)) w):
 callE P bN #[kT (kE b),kT (kE b1)] R w:=by
 obtain⟨M,c4,g7,h4,hs,d3,e4,⟨rfl,rfl⟩,h⟩:=h;rw[lG0] at hs;have e5:cM W c0.toNat num0 false b5 .nilFunc∈aM (gs++top::O::U):=by
  unfold aM;refine lU2.2 ⟨O,by simp,?_⟩;unfold Bk.mem;rw[c1.2];simp
 generalize b9:c4++(aM (gs++top::O::U)++L)=K;have e0:cM W c0.toNat num0 false b5 .nilFunc∈K:=by rw[<-b9];simp[e5]
 have h:Sat σ w (l.at b1::(p.at b::M++K)):=by rw[<-b9];exact h.re
 have ht:=hb.ok;refine hb.run h λw H I a6 t' h=>?_
 refine Sat.bx h λE w h=>?_
 refine⟨_,Sat.ld h (.tail _ (.tail _ (.head _))) (i:=0) rfl,?_⟩;have h:Sat σ w (p.at b::M++((E,cel [kT none] az)::(I,cel [kT (kE b)] ah)::t.at H::t'.at a6::l.at b1::K)):=h.re
 refine lT (d:=gs.length) h hs hd (by omega) λw h=>⟨_,rfl,?_⟩
 rw[show ((gs++top::O::U).map Bk.ob)[gs.length+1]? =some O.ob by simp];dsimp only;refine⟨kE W,true,w,by rw[c1.1];exact kC _ w,ag rfl ?_⟩;have h:Sat σ w ((E,cel [kT none] az)::(I,cel [kT (kE b)] ah)::t.at H::(p.at b::M++(t'.at a6::l.at b1::K))):=h.re
 refine h.stA 0 λw h=>?_
 have h:Sat σ w (gM E W::(I,cel [kT (kE b)] ah)::t.at H::(p.at b::M++(t'.at a6::l.at b1::K))):=h
 refine⟨_,Sat.ld h (.head _) (i:=0) rfl,_,_,j8 mv _ w,ae rfl ?_⟩;refine⟨_,Sat.ld h (.head _) (i:=0) rfl,aa ?_⟩;refine⟨_,Sat.ld h (by simp[e0]:cM W c0.toNat num0 false b5 .nilFunc∈_) (i:=0) rfl,?_⟩;rw[zf];have d0:(((c0.toNat:Nat):Int) !=((c.toNat:Nat):Int))=true:=by
  rw[bne_iff_ne];intro h6;exact e2 (lH6.1 (by omega))
 refine ag d0 ?_;refine⟨_,Sat.ld h (.head _) (i:=0) rfl,_,_,j8 mv _ w,ae rfl (ae rfl ?_)⟩;refine Sat.bx h λlb w h=>?_
 have h:Sat σ w (gM E W::(lb,cel [.int .i32 (IntKind.i32.wrap (c.toNat:Nat)),hY (num:Nat),hV false,kT none,.nilFunc] fK)::(I,cel [kT (kE b)] ah)::t.at H::(p.at b::M++(t'.at a6::l.at b1::K))):=h.re
 refine h.stA 0 λw h=>?_
 rw[zf] at h;have h:Sat σ w (gM E lb::cM lb c.toNat (num:Nat) false none .nilFunc::(I,cel [kT (kE b)] ah)::t.at H::(p.at b::M++(t'.at a6::l.at b1::K))):=h
 refine⟨_,Sat.ld h (.tail _ (.tail _ (.head _))) (i:=0) rfl,_,Sat.ld h (.head _) (i:=0) rfl,?_⟩;have d1:DocC σ b (cM lb c.toNat (num:Nat) false none .nilFunc::(gM E lb::(I,cel [kT (kE b)] ah)::t.at H::l.at b1::L)) (gs++top::O::U) .none p w:=by
  refine⟨M,c4,[],[],by rw[lG0];exact hs,d3,e4,⟨rfl,rfl⟩,?_⟩;rw[<-b9] at h;exact h.less [t'.at a6]
 refine pH (pb:=pb) (g5.close c8) (.tail _ (.tail _ (.tail _ (.tail _ e1)))) d2 g3 g2 d1 hd (by omega) e7 λw p' y b3 f g1 e8 g0 k1 k2 k3 k4 c5 g4 c3 f6 h=>⟨rfl,?_⟩
 obtain⟨b7,b4,g6,h3,e6,c9,b8,⟨rfl,rfl⟩,h⟩:=h;have c2: ∀(k:Bk),k.IM= []->k.D= []->aM (gs++ [y,k])=aM (gs++ [y])++k.own:=by
  intro k k1 k2;rw[show gs++ [y,k]=(gs++ [y])++ [k] by simp,bh,dy,k1,k2];simp[cV,txc,cj]
 have e3:f.own= [cM lb c.toNat (num:Nat) false none .nilFunc]:=g4
 rw[c2 f f6 c3,e3] at h;have h:Sat σ w (cM lb c.toNat (num:Nat) false none .nilFunc::t.at H::gM E lb::(p'.at b::b7++(b4++(aM (gs++ [y])++((I,cel [kT (kE b)] ah)::l.at b1::L))))):=h.re
 refine pX h ht λw V ib h=>?_
 let a7:Bk:=⟨f.ob,[cM lb c.toNat (num:Nat) false none (ku I V E H)],[],[]⟩
 refine e9 w p' y b3 a7 lb I H E V ib g1 e8 g0 k1 k2 k3 k4 c5 rfl rfl rfl ⟨b7,b4,[],[],?_,?_,?_,⟨rfl,rfl⟩,?_⟩
 ·have:(gs++ [y,a7]).map Bk.ob++ []=(gs++ [y,f]).map Bk.ob++ []:=by simp[a7]
  rw[this];exact e6
 ·have:txF (gs++ [y,a7])=txF (gs++ [y,f]):=by simp[txF,a7,c3]
  rw[this];exact c9
 ·intro k b6;simp only[lO0,lX0,lJ1,or_false] at b6;rcases b6 with b6|rfl|rfl
  ·exact b8 k (by simp[b6])
  ·exact b8 _ (by simp)
  ·have f5:=b8 f (by simp);refine⟨?_,by show 0<100000;decide,f5.2.2⟩
   show Sl 1 aO f.ob.q f.ob.n f.ob.c [] []
   rw[c5];exact Sl.nil 1 aO
 ·rw[c2 a7 rfl rfl]
  show Sat σ w (p'.at b::b7++(b4++((aM (gs++ [y])++ [cM lb c.toNat (num:Nat) false none (ku I V E H)])++([]++(l.at b1::(fm b I H E V lb ib n (!t.blank) t++L))))))
  have h:Sat σ w (cM lb c.toNat (num:Nat) false none (ku I V E H)::t.at H::gM E lb::jf V ib::gc ib lb n (!t.blank)::(p'.at b::b7++(b4++(aM (gs++ [y])++((I,cel [kT (kE b)] ah)::l.at b1::L))))):=h
  unfold fm;exact h.re
theorem zR (i1:op.task=false){h4:OA->Nat->WP}{b b1 pb num n:Nat}{xs:List IN}{gs junk:List Bk}{top:Bk}{p:PS}{l l2:Ln}{x c d:UInt8}{r r2:List UInt8}(g6:Runs R h4 b b1)(d1:Pd G op xs junk .none)(s5:junk= []\/ ∃O W g5 c0 num0 g2,junk=O::W/\O.isList g5 (UInt8.toNat c0) num0 g2/\c0≠c)(h:DocC σ b (l.at b1::L) (gs++top::junk) .none p w)(hd:p.depth=gs.length)(o2:gs.length<90000)(ht:top.box_)(V:l.has x r)(hc:xe x)(e5:l.isHR=false)(e8:pL l c num n l2)(e4:l2.has d r2)(g1:cL d=false)(s7: ∀E∈gs++top::junk,E.D.length<=90000)(r6:(txF (gs++top::junk)).length<=90000)(m4:p.pz=kE pb)(o4:op.at pb∈L)(g0:p.lineno<1000000000)(d2: ∀(X:OA->Nat->WP),(∀h8 h9 w,aj.bl102 R X h8 h9 w->X h8 h9 w)-> ∀w (p':PS) y c4 f E lb it,p'.base=p.base->p'.lineno=p.lineno->p'.depth=p.depth+2->y.like top->y.D=top.D++c4->TDs G op c4 xs->(cj c4).length<=(txF junk).length+1->
  f.isList lb c.toNat (num:Nat) it->f.D= []->ItemOf it E lb n true->E.D= []->f.ob.s=p.lineno->E.ob.s=p.lineno->E.ob.e=p.lineno->DocC σ b (l2.at b1::L) (gs++y::f:: [E]) .none p' w->X (kE b) b1 w):
 aj.bl102 R h4 (kE b) b1 w:=by
 obtain⟨t4,s2,t1,h3,h7⟩:=ht;rcases s5 with rfl|⟨O,W,g5,c0,num0,g2,rfl,q4,q0⟩
 ·have m8:xs= []:=by cases d1;rfl
  subst m8;refine Bd g6 h hd (by omega) t1 h3 h7 V hc e5 e8 e4 g1 g0 λX e1 w p' f E lb it a1 a2 a3 a4 a5 t5 r4 a8 a9 a10 h=>?_
  refine d2 X e1 w p' top [] f E lb it a1 a2 a3 (.refl top) (by simp) .nil (by simp[cj]) a4 a5 t5 r4 a8 a9 a10 ?_
  simpa using h
 ·have j1:cL x=false:=hc.1;have g4:=e4.blank g1;have v6:=h;obtain⟨M,d0,t9,v5,hs,o0,r3,⟨rfl,rfl⟩,h⟩:=h;rw[lG0] at hs;have h:Sat σ w (p.at b::M++(l.at b1::(d0++(aM (gs++top::O::W)++L)))):=h.re
  have e9:top.np:=⟨t4,s2,t1,h3⟩;refine jr (l2:=l) 4 (by decide) h (jq (nC hs hd (by omega) e9 d1.next (d1.last rfl gs top e9) V.ok) V hc e5) V.ok (V.blank j1) λw nb e h2 h c8=>?_
  show callE P cm _ h2 w
  refine cN.sound ?_;refine Sat.bx h λb2 w h=>?_
  refine Sat.bx h λb9 w h=>?_
  have h:Sat σ w (p.at b::M++(zLn b9::l.at b2::(l.at b1::(nb,cel newsC e)::(d0++(aM (gs++top::O::W)++L))))):=by
   have h:Sat σ w (zLn b9::l.at b2::(p.at b::M++(l.at b1::(nb,cel newsC e)::(d0++(aM (gs++top::O::W)++L))))):=h
   exact h.re
  refine qq h hs hd λw h=>?_
  rw[show ((gs++top::O::W).map Bk.ob)[gs.length]? =some top.ob by simp];dsimp only;refine⟨_,rfl,none,false,w,by rw[t1];exact gC h7 w,ae rfl (ae rfl ?_)⟩;have m2:DocC σ b (l.at b2::(zLn b9::l.at b1::(nb,cel newsC e)::L)) (gs++top::O::W) .none p w:=⟨M,d0,[],[],by rw[lG0];exact hs,o0,r3,⟨rfl,rfl⟩,h.re⟩
  refine vK (pb:=pb) i1 d1 q4 q0 m2 hd o2 s7 r6 m4 (.tail _ (.tail _ (.tail _ o4))) g0 V.ok e8 λw p' y c4 f lb c5 c9 b6 b7 ib t6 h1 r5 k1 k2 k3 k4 d3 h5 s4 v3 h=>⟨_,rfl,ag rfl ?_⟩
  rw[g4,show (!false)=true from rfl] at h;have v4:=h;obtain⟨b4,b8,t8,u2,g3,i3,l5,⟨rfl,rfl⟩,h⟩:=h;have h:Sat σ w (zLn b9::l.at b2::(l.at b1::p'.at b::(b4++(b8++(aM (gs++ [y,f])++(fm b c5 c9 b6 b7 lb ib n true l2++((nb,cel newsC e)::L))))))):=h.re
  repeat (first|refine aa ?_|refine h.tk λw h=>?_|refine⟨_,h.ldA,?_⟩|refine⟨_,_,_,h.ldA,?_⟩|refine h.stA 0 λw h=>?_|refine h.stA 1 λw h=>?_|refine h.stA 2 λw h=>?_|refine h.stA 3 λw h=>?_|refine h.stA 4 λw h=>?_|refine h.stA 5 λw h=>?_|refine h.stA 6 λw h=>?_|refine h.bx λb0 w h=>?_)
  have h:Sat σ _ (l.at b9::l.at b2::(l.at b1::p'.at b::(b4++(b8++(aM (gs++ [y,f])++(fm b c5 c9 b6 b7 lb ib n true l2++((nb,cel newsC e)::L))))))):=h
  refine c8 _ _ p' (by omega) h.tail.tail λw h=>?_
  refine g6 w λX e1=>?_
  let I:PS:= {p' with depth:=p'.depth+1}
  rw[lG0] at g3;have f6:Stk I ((gs++ [y,f]).map Bk.ob) b4:=g3.of rfl rfl rfl;have m3:Stk I ((gs++ [y]).map Bk.ob++ [f.ob]) b4:=by simpa using f6
  have e6:I.depth=(gs++ [y]).length:=by show p'.depth+1=_;rw[r5,hd];simp
  have h:Sat σ w (I.at b::b4++(l.at b1::(b8++(aM (gs++ [y,f])++(fm b c5 c9 b6 b7 lb ib n true l2++((nb,cel newsC e)::L)))))):=by
   have h:Sat σ w (l.at b1::I.at b::(b4++(b8++(aM (gs++ [y,f])++(fm b c5 c9 b6 b7 lb ib n true l2++((nb,cel newsC e)::L)))))):=h
   exact h.re
  refine jr (l2:=l2) 4 (by decide) h (jq (λσ w L R r9 t0=>kD r9 m3 e6 (by simp) (by rw[d3];rfl) (by decide) V.ok t0) V hc e5) e4.ok g4 λw e3 e7 s9 h m6=>?_
  show callE P cm _ s9 w
  have m5:DocC σ b (fm b c5 c9 b6 b7 lb ib n true l2++(l.at b1::(e3,cel newsC e7)::(nb,cel newsC e)::L)) ((gs++ [y])++f:: []) .none I w:=by
   have s1:(gs++ [y])++f:: []=gs++ [y,f]:=by simp
   rw[s1];exact⟨b4,b8,[],[],by rw[lG0];exact f6,i3.of rfl rfl rfl,l5,⟨rfl,rfl⟩,h.re⟩
  refine F4 (Post:=λv0 e0=>e0.ob=f.ob/\e0.D= []) (l:=l) m5 ⟨by rw[d3],h5⟩ e6 (by simp;omega) (by show p'.lineno<_;omega) (λu8 h2 w u1 h c8=>?_) λw b5 v2 e0 H U i2 s3 r8 r7 i8 i0 m1 o3 j0 q5 n3 h=>?_
  ·have s6:(((gs++ [y]).length:Int)+1)=(((gs++ [y]).length+1:Nat):Int):=by omega
   rw[s6];refine vE h (by simp) λX d2=>?_
   refine vF d2 h (by simp) ?_;exact c8 w I f none ⟨rfl,s4⟩ rfl rfl rfl ⟨by rw[d3],h5⟩ (by simpa using h)
  ·obtain⟨h6,g7,t7,u0,n1,n0,k0,⟨rfl,rfl⟩,h⟩:=h;have h:Sat σ w (l.at b1::b5.at b::(h6++(g7++(aM ((gs++ [y])++ [H,U])++([]++((e3,cel newsC e7)::(nb,cel newsC e)::L)))))):=h.re
   have n2:b5.depth=((gs.length+1:Nat):Int):=by rw[r7,e6];simp
   refine m6 w _ b5 (by omega) h λw h=>?_
   obtain⟨s8,q8⟩:=i2;have f5:I.lineno=p.lineno:=h1;refine d2 X e1 w {b5 with depth:=b5.depth+1} y c4 H U lb (kE ib) (s3.trans t6) (r8.trans h1) (by show b5.depth+1=_;rw[n2,hd];omega) k1 k2 k3 k4 i8 (by rw[m1];exact q8) o3 j0 (by rw[i0,s8,d3]) (by rw[q5];exact f5) (by rw[n3];exact f5) ⟨h6,g7,[],[],?_,?_,?_,⟨rfl,rfl⟩,?_⟩
   ·have:(gs++y::H:: [U]).map Bk.ob++ []=((gs++ [y])++ [H,U]).map Bk.ob++ []:=by simp
    rw[this];exact n1.of rfl rfl rfl
   ·have:txF (gs++y::H:: [U])=txF ((gs++ [y])++ [H,U]):=by simp[txF]
    rw[this];exact n0.of rfl rfl rfl
   ·intro k c8;exact k0 k (by simpa using c8)
   ·have:aM (gs++y::H:: [U])=aM ((gs++ [y])++ [H,U]):=by simp[aM]
    rw[this];exact h.less [(e3,cel newsC e7),(nb,cel newsC e)]

theorem contS {b b1 pb s:Nat}{d2:OA->Nat->WP}{gs:List Bk}{top:Bk}{p:PS}{ls:List (List UInt8)}{l:Ln}(h:DocC σ b (l.at b1::L) (gs++ [top]) (oH s ls) p w)(hd:p.depth=gs.length)(e3:gs.length<900000)(ht:top.box_)(W:l.cont)(e4:ls.length<1048569)(a7:p.pz=kE pb)(b7:op.at pb∈L)(c1:op.table=false)(b5:p.lineno<1000000000)(c8: ∀w,DocC σ b L (gs++ [top.setE p.lineno]) (oH s (ls++ [l.rest])) p w->R (hQ (.tuple #[])) w):aj.bl102 R d2 (kE b) b1 w:=by
 obtain⟨M,y,e2,V,hs,b3,U,⟨g,e,rfl,c4,b8,e5,e6⟩,h⟩:=h;obtain⟨td,vd,t1,e8,c5⟩:=ht;have h:Sat σ w (p.at b::M++(l.at b1::(y++(aM (gs++ [top])++(V++L))))):=h.re
 have a6:((gs++ [top]).map Bk.ob)[gs.length]? =some top.ob:=by simp
 refine ud h (Af (fs:=(gs++ [top]).map Bk.ob) hs rfl hd (by omega) (by simp) a6 t1 c5 (λo1 I=>?_) W) λw nb E e7 h b4=>?_
 ·rw[lS1 (by simp)] at I;cases I
 have h:Sat σ w (p.at b::M++(V++(l.at b1::(nb,cel newsC E)::(y++(aM (gs++ [top])++L))))):=h.re
 have d3:op.at pb∈l.at b1::(nb,cel newsC E)::(y++(aM (gs++ [top])++L)):=by simp[b7]
 refine uF (d:=gs.length) h hs rfl hd (by simp) a7 d3 c1 c4 (by omega) W.plain.ok λw c3 b9 O b6 h=>b4 w true ?_
 have H:Sims (gs++ [top]) (gs++ [top.setE p.lineno]):=Sims.append (Sims.refl λf d1=>(U f (by simp[d1])).2.2.2) (.cons (top.setE_sim b5) .nil);have c2:((gs++ [top]).map Bk.ob++ [jM g s e]).take gs.length++(((gs++ [top]).map Bk.ob++ [jM g s e]).drop gs.length).map (·.setE p.lineno)=(gs++ [top.setE p.lineno]).map Bk.ob++ [jM g s p.lineno]:=by
  have c9:(gs++ [top]).map Bk.ob++ [jM g s e]=gs.map Bk.ob++ [top.ob,jM g s e]:=by simp
  rw[c9,lQ3 (by simp),lJ2 (by simp),lB2 (by simp),lF6 (by simp)];simp[Bk.setE,OB.setE,jM]
 rw[c2] at O;obtain⟨d0,e0⟩:=H.mem;refine c8 w ⟨c3,y,_,b9,O,by rw[e0];exact b3,H.ok U,⟨g,p.lineno,rfl,b6,b8,by simp,by simp;omega⟩,?_⟩;rw[d0];exact h.less [l.at b1,(nb,cel newsC E)]

theorem Sl.pop {e:TypeId}{q:Option Addr}{n c:Nat}{vs:List Value}{v:Value}{M:List ai}(h:Sl 1 e q (n+1) c (vs++ [v]) M):Sl 1 e q n c vs M:=by
 obtain⟨y,E,⟨_,g,_⟩|⟨b,sp,rfl,rfl,g⟩⟩:=h
 ·omega
 ·refine⟨by simp at y;omega,by omega,.inr ⟨b,v::sp,rfl,by simp,by simpa using g⟩⟩
def Aw (c:UInt8):Nat:=if c=61 then 1 else 2
def qN (hb t s e s' e' lv:Nat)(raw:List UInt8):DB:=⟨.iface gd (kT (kE hb)),[oK hb s e lv t []],[⟨t,s',e',raw⟩]⟩

theorem xx {b nb n:Nat}{c:UInt8}{v:Int}{e:TypeId}{l:Ln}(hc:c=61\/c=45)(b3:1<=n)(y:LnR l (hN n c))(h:Sat σ w (l.at b::(nb,cel [hY v] e)::L))(H: ∀w,Sat σ w (l.at b::(nb,cel [hY (Aw c:Int)] e)::L)->R (hQ (hV true)) w):callE P fi #[kT (kE b),kT (kE nb)] R w:=by
 have V:cL c=false:=by rcases hc with rfl|rfl<;>decide
 obtain⟨m,rfl⟩: ∃m,n=m+1:=⟨n - 1,by omega⟩
 have E:l.has c (hN m c):=LnR.has (by rw[<-lX1];exact y);refine cO.sound ?_
 repeat (first|refine aa ?_|refine h.tk λw h=>?_|refine⟨_,h.ldA,?_⟩|refine⟨_,_,_,h.ldA,?_⟩|refine h.stA 0 λw h=>?_|refine h.stA 1 λw h=>?_|refine h.stA 2 λw h=>?_|refine h.stA 3 λw h=>?_|refine h.stA 4 λw h=>?_|refine h.stA 5 λw h=>?_|refine h.stA 6 λw h=>?_|refine h.bx λb0 w h=>?_)
 have h:Sat σ _ (l.at b0::l.at b::(nb,cel [hY v] e)::L):=h
 refine lead_ok (max:=3) h y.ok (by decide) λw h=>⟨_,rfl,?_⟩
 rw[E.lead V 2] at h;refine lS h (.head _) y.ok λw h=>⟨_,rfl,?_⟩
 rw[E.peek,u8b _ 45 45 rfl,u8b _ 61 61 rfl];refine ag (by rcases hc with rfl|rfl<;>decide) ?_;intro X I;have U: ∀k (l2:Ln) w,LnR l2 (hN k c)->Sat σ w (l2.at b0::l.at b::(nb,cel [hY v] e)::L)->X (kE nb) b0 (c.toNat:Int) w:=by
  intro k
  induction k with
  |zero=>
   intro l2 w g h;have g:LnR l2 []:=g;have O:=g.lenNil;refine I _ _ _ _ ?_;refine trimC_ok (c:=c) rfl h g.ok ?_;have ht:l2.trimC c=none:=by
    have a6:l2.text[l2.i]? =none:=lS1 O;unfold Ln.trimC;rw[if_neg (by rw[g.sp];omega),if_neg (by rw[a6];simp)]
   rw[ht];intro w h;refine⟨_,rfl,ae rfl ?_⟩;refine qB h g.ok λw h=>⟨rfl,?_⟩
   refine Ex h (.head _) λw h=>⟨_,rfl,?_⟩
   have W:decide (l2.skip.text.length<=l2.skip.i)=true:=by
    have hd:=g.tx;simp[Ln.skip,hd]
   rw[W];refine ag rfl ?_;rw[u8b _ 61 61 rfl];have h:Sat σ w ((nb,cel [hY v] e)::l2.skip.at b0::l.at b::L):=h.re
   rcases hc with rfl|rfl
   ·refine ag rfl (aa ?_);refine h.stA 0 λw h=>?_
    have h:Sat σ w ((nb,cel [hY ((Aw 61:Nat):Int)] e)::l2.skip.at b0::l.at b::L):=h
    exact H w (h.less [l2.skip.at b0])
   ·refine ae rfl (aa ?_);refine h.stA 0 λw h=>?_
    have h:Sat σ w ((nb,cel [hY ((Aw 45:Nat):Int)] e)::l2.skip.at b0::l.at b::L):=h
    exact H w (h.less [l2.skip.at b0])
  |succ k a7=>
   intro l2 w g h;have g:LnR l2 (c::hN k c):=by rw[<-lX1];exact g
   refine I _ _ _ _ ?_;refine trimC_ok (c:=c) rfl h g.ok ?_;rw[g.has.trimC,if_pos rfl];intro w h;refine⟨_,rfl,ag rfl ?_⟩;exact a7 _ w (LnR.skip (a:= [c]) g) h
 exact U (m+1) l w y h
theorem A1 {nb t s e s' e' lv:Nat}{raw:List UInt8}(hs:s<1000000000)(U:e<2000000000)(y:lP (G raw))(O:js none [] op raw (G raw)):TD G op (qN nb t s e s' e' lv raw) (.mk {kind:=5,num:=(lv:Nat),s:=s,e:=e} (gO (G raw))):=by
 have ht:(qN nb t s e s' e' lv raw).tree G (.mk {kind:=5,num:=(lv:Nat),s:=s,e:=e} (gO (G raw))):=by
  intro ts ht;cases ht with
  |cons g H E=>
   cases E
   rw[<-H] at y⊢;exact⟨_,pv (nb:=nb) (t:=t) (s:=s) (e:=e) (s':=s') (e':=e') (lv:=lv) (raw:=raw) (id:= []) g.1 (eG y g.2.2) g.2.1 (by decide),λa=>by simp[qN,fI,wO]⟩
 refine⟨ht,?_,.inr ⟨_,_,rfl,by decide⟩,⟨jQ mK rfl (.head _),?_,hs,U⟩,λx I=>?_⟩
 ·rw[d6 (d:=qN nb t s e s' e' lv raw) rfl (by decide)];exact ht
 ·show ((s:Int).toNat,(e:Int).toNat)=(s,e)
  simp
 ·obtain rfl:=lR0.1 I;exact O

theorem E3 (g2:op.task=false){l5:OA->Nat->WP}{b b1 pb s n:Nat}{c:UInt8}{gs:List Bk}{top:Bk}{p:PS}{ls:List (List UInt8)}{l:Ln}(h:DocC σ b (l.at b1::L) (gs++ [top]) (oH s ls) p w)(hd:p.depth=gs.length)(n2:gs.length<90000)(hc:c=61\/c=45)(f6:1<=n)(c8:LnR l (hN n c))(k0:xd G op ls)(g0: ∀g∈gs++ [top],g.D.length<=90000)(j1:(txF (gs++ [top])).length<=90000)(g7:p.pz=kE pb)(h7:op.at pb∈L)(n1:p.lineno<1000000000)(b6: ∀w (p':PS) W hb t,p'.base=p.base->p'.lineno=p.lineno->W.like top->W.D=top.D++ [qN hb t s p.lineno s (s+ls.length - 1) (Aw c) (bv [10] ls)]->s<1000000000->DocC σ b L (gs++ [W]) .none p' w->R (hQ (.tuple #[])) w):
 aj.bl102 R l5 (kE b) b1 w:=by
 have f2:cL c=false:=by rcases hc with rfl|rfl<;>decide
 have c5:l.has c (hN (n - 1) c):=LnR.has (by rw[<-lX1,Nat.sub_add_cancel f6];exact c8);have m4:l.quote=none:=by unfold Ln.quote;rw[c5.lead f2 2,c5.trimC,if_neg (by rcases hc with rfl|rfl<;>decide)];rfl
 have i1:l.heading=none:=by unfold Ln.heading;rw[c5.lead f2 2,c5.trimC,if_neg (by rcases hc with rfl|rfl<;>decide)]
 have o3:=h;obtain⟨M,I,g5,a6,hs,e2,c2,⟨a7,e,rfl,i2⟩,h⟩:=h;have h:Sat σ w (p.at b::M++(l.at b1::(I++(aM (gs++ [top])++(a6++L))))):=h.re
 refine nT 2 (by decide) h ?_ λw c1 c3 j0 h E=>?_
 ·intro j o2 m2 σ w L R h b6
  match j,m2 with
  |0,_=>exact ip (x:= .nilIface) h c8.ok m4 b6
  |1,_=>exact lw h c8.ok i1 b6
 show callE P cg _ j0 w
 refine bL.sound ?_;refine Sat.bx h λb2 w h=>?_
 refine Sat.bx h λO w h=>?_
 refine Sat.bx h λV w h=>?_
 repeat (first|refine aa ?_|refine h.tk λw h=>?_|refine⟨_,h.ldA,?_⟩|refine⟨_,_,_,h.ldA,?_⟩|refine h.stA 0 λw h=>?_|refine h.stA 1 λw h=>?_|refine h.stA 2 λw h=>?_|refine h.stA 3 λw h=>?_|refine h.stA 4 λw h=>?_|refine h.stA 5 λw h=>?_|refine h.stA 6 λw h=>?_|refine h.bx λb0 w h=>?_)
 have h:Sat σ _ (l.at b0::(V,cel [hY 0] bg)::zLn O::l.at b2::(p.at b::M++(l.at b1::(c1,cel newsC c3)::(I++(aM (gs++ [top])++(a6++L)))))):=h
 have h:Sat σ _ (p.at b::M++(l.at b0::(V,cel [hY 0] bg)::zLn O::l.at b2::(l.at b1::(c1,cel newsC c3)::(I++(aM (gs++ [top])++(a6++L)))))):=h.re
 refine lT (d:=gs.length) h hs hd (by omega) λw h=>?_
 rw[show ((gs++ [top]).map Bk.ob++ [jM a7 s e])[gs.length+1]? =some (jM a7 s e) by simp];refine⟨_,rfl,?_⟩;refine qy (l:=(gs++ [top]).map Bk.ob) h hs (o:=jM a7 s e) rfl (λw h=>?_) (λ_=>⟨_,rfl⟩);rw[if_pos rfl];refine⟨_,rfl,_,w,qR a7 _ _ w,ag rfl ?_⟩;have h:Sat σ _ (l.at b0::(V,cel [hY 0] bg)::(p.at b::M++(zLn O::l.at b2::(l.at b1::(c1,cel newsC c3)::(I++(aM (gs++ [top])++(a6++L))))))):=h.re
 refine xx hc f6 c8 h λw h=>⟨_,rfl,ag rfl ?_⟩
 generalize Aw c=lv at h b6;have c9:DocC σ b ((V,cel [hY lv] bg)::zLn O::l.at b1::L) (gs++ [top]) (oH s ls) p w:=⟨M,I,_,a6,hs,e2,c2,⟨a7,e,rfl,i2⟩,h.less [l.at b0,l.at b2,(c1,cel newsC c3)]⟩
 have i3:=g0 top (by simp);refine ua c9 k0.fin (by omega) (by omega) λw U y nb t x f1 h6 f4 b9 d3 h9 n0 h=>⟨_,rfl,?_⟩
 obtain⟨M,I,g5,a6,hs,e2,c2,⟨rfl,rfl⟩,h⟩:=h;have f0:=c2 y (by simp);have b4:=f0.1;rw[d3,lV0] at b4;have e4:y.ob.n=top.D.length+1:=by have:=b4.1;simp at this;omega
 rw[lG0,lV0] at hs;have hs:Stk U (gs.map Bk.ob++ [y.ob]) M:=hs;have c4:=hs.2.1;rw[lA0,lS0,lE0] at c4;have d2:(gs.map Bk.ob).length=gs.length:=by simp
 obtain⟨sb,sp,e3,rfl,h1⟩:=hs.split (by simp);obtain⟨ib,f5,d1,d0⟩:=b4.rowAt (by omega);have d0:y.IM= [(ib,cel (top.D.map DB.v++ [(j9 nb t s (s+ls.length - 1) (bv [10] ls)).v]++f5) aO)]:=d0;have e9:i64.wrap (((gs.length+1:Nat):Int) - 1)=((gs.length:Nat):Int):=by rw[i64_in _ (by omega)];omega
 have e8:i64.wrap (((top.D.length+1:Nat):Int) - 1)=((top.D.length:Nat):Int):=by rw[i64_in _ (by omega)];omega
 rw[bh,dy,d3,lu,nB] at h;have h:Sat σ w (U.at b::(sb,cel (aP (gs.map Bk.ob++ [y.ob])++sp) ay)::(y.IM++(kV nb s (s+ls.length - 1) t::(V,cel [hY lv] bg)::zLn O::l.at b1::(I++(aM gs++(y.own++(cV top.D++(txc top.D++(fp t s (s+ls.length - 1) none 0 0 (bv [10] ls)::L))))))))):=by
  have h:Sat σ w (U.at b:: [(sb,cel (aP (gs.map Bk.ob++ [y.ob])++sp) ay)]++(I++((aM gs++(y.IM++(y.own++((cV top.D++ [kV nb s (s+ls.length - 1) t])++(txc top.D++ [fp t s (s+ls.length - 1) none 0 0 (bv [10] ls)])))))++([]++((V,cel [hY lv] bg)::zLn O::l.at b1::L))))):=h
  exact h.re
 generalize e7:(kV nb s (s+ls.length - 1) t::(V,cel [hY lv] bg)::zLn O::l.at b1::(I++(aM gs++(y.own++(cV top.D++(txc top.D++(fp t s (s+ls.length - 1) none 0 0 (bv [10] ls)::L)))))))=K at h;refine jm.sound ?_;refine h.tk λw h=>?_
 refine aa (aa ?_);refine⟨_,_,_,h.ldA,?_⟩;refine⟨_,_,_,h.ldA,?_⟩;rw[c4,e9,e3];refine⟨by omega,by omega,aa ?_⟩;refine h.tk λw h=>?_
 simp only[lK0,lN0,lC0,lN1];have b8:(gs.map Bk.ob++ [y.ob])[gs.length]? =some y.ob:=by rw[<-d2];exact ig (l:=gs.map Bk.ob) y.ob
 refine⟨_,_,_,Sat.ld h (.tail _ (.head _)) (fe (j:=gs.length) (f:=1) (by decide) b8),_,_,_,Sat.ld h (.tail _ (.head _)) (fe (j:=gs.length) (f:=1) (by decide) b8),?_⟩;rw[e4,e8,d1];refine⟨by omega,by omega,aa ?_⟩;simp only[lK0,lN0,lC0,lD1];have h5:(ib,cel (top.D.map DB.v++ [(j9 nb t s (s+ls.length - 1) (bv [10] ls)).v]++f5) aO)∈U.at b::(sb,cel (aP (gs.map Bk.ob++ [y.ob])++sp) ay)::(y.IM++K):=by rw[d0];simp
 refine⟨_,Sat.ld h h5 (by rw[lD0,lH0 (by simp)];simp;rfl),⟨_,rfl,?_⟩⟩;refine⟨_,_,_,rK _ w,ae rfl ?_⟩;refine fB.sound ?_;refine h.tk λw h=>?_
 refine aa (aa ?_);refine⟨_,_,_,h.ldA,?_⟩;refine⟨_,_,_,h.ldA,?_⟩;rw[c4,e9,e3];refine⟨by omega,by omega,aa ?_⟩;refine h.tk λw h=>?_
 simp only[lK0,lN0,lC0,lN1];refine⟨_,_,_,Sat.ld h (.tail _ (.head _)) (fe (j:=gs.length) (f:=1) (by decide) b8),_,_,_,Sat.ld h (.tail _ (.head _)) (fe (j:=gs.length) (f:=1) (by decide) b8),?_⟩;have m8:=b4.2.1;rw[e4,e8,d1];refine⟨_,_,_,λw=>uw rowBlock.ht rowBlock.hi ib (top.D.length+1) y.ob.c top.D.length (by omega) (by omega) w,?_⟩;refine Sat.st h (k:=1) rfl (by rw[lA0,aR,lA0,d2,lE0];omega) trivial rfl λw h=>?_
 let r2:OB:= {y.ob with q:=kE ib,n:=top.D.length,c:=y.ob.c}
 have i0:(aP (gs.map Bk.ob++ [y.ob])++sp).set (gs.length*4+1) (hT (kE ib) top.D.length y.ob.c)=aP (gs.map Bk.ob++ [r2])++sp:=by
  have:=kS (l:=gs.map Bk.ob) (sp:=sp) (o:=y.ob) (o':=r2) (f:=1) (v:= hT (kE ib) top.D.length y.ob.c) (by decide) rfl
  rw[d2] at this;exact this
 have e0:Stk U (gs.map Bk.ob++ [r2]) [(sb,cel (aP (gs.map Bk.ob++ [r2])++sp) ay)]:=by
  refine Stk.mk' e3 ?_ (by rw[c4];simp) (by simp;omega);rw[<-h1];simp only[lA0,aR,lE0]
 have h2:Sl 1 aO r2.q r2.n r2.c (top.D.map DB.v) y.IM:=by
  have:=b4;rw[e4,d1] at this;exact this.pop
 refine⟨trivial,?_⟩;have h:Sat σ w (U.at b::(sb,cel (aP (gs.map Bk.ob++ [r2])++sp) ay)::(y.IM++K)):=by
  rw[<-i0];exact h
 have f3:kV nb s (s+ls.length - 1) t∈U.at b::(sb,cel (aP (gs.map Bk.ob++ [r2])++sp) ay)::(y.IM++K):=by rw[<-e7];simp
 have h8:(V,cel [hY lv] bg)∈U.at b::(sb,cel (aP (gs.map Bk.ob++ [r2])++sp) ay)::(y.IM++K):=by rw[<-e7];simp
 refine Sat.tk h λw h=>?_
 refine aa (aa (aa ?_));refine⟨_,Sat.ld h f3 (i:=0) rfl,_,Sat.ld h (.head _) (i:=3) rfl,_,Sat.ld h h8 (i:=0) rfl,_,Sat.ld h f3 (i:=2) rfl,?_⟩;refine Sat.bx h λhb w h=>?_
 rw[f4] at h;have h:Sat σ w (oK hb s p.lineno lv t []::U.at b::(sb,cel (aP (gs.map Bk.ob++ [r2])++sp) ay)::(y.IM++K)):=h
 generalize b7:qN hb t s p.lineno s (s+ls.length - 1) lv (bv [10] ls)=d;have g1:d.own= [oK hb s p.lineno lv t []]:=by rw[<-b7];rfl
 have g4:d.txs= [⟨t,s,s+ls.length - 1,bv [10] ls⟩]:=by rw[<-b7];rfl
 let H:Bk:=⟨r2,y.own,top.D,y.IM⟩
 have c9:DocE σ b (d.own++(d.txs.map TX.chunk++(zLn O::l.at b1::L))) d.txs (gs++H:: []) U w:=by
  rw[g1,g4];refine⟨[(sb,cel (aP (gs.map Bk.ob++ [r2])++sp) ay)],I,[],[],?_,?_,?_,⟨rfl,rfl⟩,?_⟩
  ·have:(gs++H:: []).map Bk.ob++ []=gs.map Bk.ob++ [r2]:=by simp[H]
   rw[this];exact e0
  ·have m3:txF (gs++H:: [])++ [⟨t,s,s+ls.length - 1,bv [10] ls⟩]=txF (gs++ [y]):=by
    rw[show gs++H:: []=gs++ [H] from rfl,bE,bE,dH,dH,d3,jy,lD0];rfl
   rw[m3];exact e2
  ·intro k E;rcases lO0.1 E with E|E
   ·exact c2 k (by simp[E])
   ·obtain rfl:=lR0.1 E;exact⟨h2,by show top.D.length<100000;omega,f0.2.2⟩
  ·rw[show gs++H:: []=gs++ [H] from rfl,bh,dy]
   show Sat σ w (U.at b:: [(sb,cel (aP (gs.map Bk.ob++ [r2])++sp) ay)]++(I++((aM gs++(y.IM++(y.own++(cV top.D++txc top.D))))++([]++([oK hb s p.lineno lv t []]++([fp t s (s+ls.length - 1) none 0 0 (bv [10] ls)]++(zLn O::l.at b1::L)))))))
   rw[<-e7] at h;exact h.less [kV nb s (s+ls.length - 1) t,(V,cel [hY lv] bg)]
 refine qp (pb:=pb) (G:=G) (op:=op) (xs:= []) (Pd.closeE g2 .none rfl) (.tail _ (.tail _ h7)) (by rw[<-g7];exact oQ f1) (λk E=>?_) ?_ c9 (by rw[h6];exact hd) (by omega) (by rw[<-b7];rfl) (by simp) λw p' W m1 m5 o0 i8 k1 k2 k3 k4 h=>⟨rfl,?_⟩
 ·rcases lO0.1 E with E|E
  ·exact g0 k (by simp[E])
  ·obtain rfl:=lR0.1 E;exact i3
 ·have:txF (gs++H:: [])=txF (gs++ [top]):=by rw[show gs++H:: []=gs++ [H] from rfl,bE,bE,dH,dH]
  rw[this];exact j1
 obtain rfl:m1= []:=by cases k3;rfl
 obtain⟨e6,e5,m6,n3,e0,g3,g6,⟨rfl,rfl⟩,h⟩:=h;have h:Sat σ w (zLn O::l.at b1::(p'.at b::e6++(e5++(aM (gs++ [W])++L)))):=h.re
 repeat (first|refine aa ?_|refine h.tk λw h=>?_|refine⟨_,h.ldA,?_⟩|refine⟨_,_,_,h.ldA,?_⟩|refine h.stA 0 λw h=>?_|refine h.stA 1 λw h=>?_|refine h.stA 2 λw h=>?_|refine h.stA 3 λw h=>?_|refine h.stA 4 λw h=>?_|refine h.stA 5 λw h=>?_|refine h.stA 6 λw h=>?_|refine h.bx λb0 w h=>?_)
 have h:Sat σ _ (zLn O::l.at b1::(p'.at b::e6++(e5++(aM (gs++ [W])++L)))):=h
 refine E _ _ h.tail λw h=>?_
 refine b6 w p' W hb t (m5.trans f1) (i8.trans f4) ⟨k1.1.trans b9.1,k1.2.1.trans b9.2.1,k1.2.2.1.trans b9.2.2.1,k1.2.2.2.trans b9.2.2.2⟩ (by rw[b7];exact k2) h9 ⟨e6,e5,[],[],e0,g3,g6,⟨rfl,rfl⟩,h.re⟩

theorem sH {xs I:Array Value}: ∀ {fs:List Field} {gs:List (TypeId × Nat)},fs.map (λf=>(f.name== "_",f.type,f.offset))=gs.map (λy=>(false,y.1,y.2))->
 (∀y∈gs,∃u v r,(part y.1 xs y.2).run P w= .ok u w/\(part y.1 I y.2).run P w= .ok v w/\(Op.equalIn 9999 y.1 u v).run P w= .ok r w)->
 (∃y∈gs,∃u v,(part y.1 xs y.2).run P w= .ok u w/\(part y.1 I y.2).run P w= .ok v w/\(Op.equalIn 9999 y.1 u v).run P w= .ok false w)->(Op.eqFields 9999 xs I fs).run P w= .ok false w
 | [],[],_,_,hx=>by obtain⟨y,H,_⟩:=hx;cases H
 | [],y::gs,h,_,_=>by simp at h
 |f::fs,[],h,_,_=>by simp at h
 |f::fs,y::gs,h,H,hx=>by
  simp only[lY1,lU0,Prod.mk.injEq] at h;obtain⟨⟨b3,a6,b4⟩,b8⟩:=h;obtain⟨u,v,r,V,W,O⟩:=H y (lW1 ..);have b7:f.name≠ "_" :=by simpa using b3
  have a7:r=true->(Op.eqFields 9999 xs I fs).run P w= .ok false w:=by
   intro hr;refine sH b8 (λU E=>H U (lQ1 _ E)) ?_;obtain⟨U,E,b5,b6,a1,a2,a3⟩:=hx;rcases lX0.1 E with rfl|E
   ·rw[V] at a1;rw[W] at a2
    cases a1;cases a2
    rw[O,hr] at a3;cases a3
   ·exact⟨U,E,b5,b6,a1,a2,a3⟩
  rw[<-a6,<-b4] at V W;rw[<-a6] at O;simp only[Op.eqFields,ne_eq,b7,not_false_eq_true,if_true,lW0,V,W,O,lJ0];cases r with
  |true=>simp only[Bool.not_true,lE3,if_false];exact a7 rfl
  |false=>simp
theorem Ds {l m:Ln}(I:l.text≠m.text)(x H:Operand)(w:World):(do eqGuard .neq aW x H l.val m.val;binOp .neq aW l.val m.val).run P w= .ok (hV true) w:=by
 have E:(eqGuard .neq aW x H l.val m.val).run P w= .ok () w:=run_eqGuard_agg w .neq aW x H _ _ (by kernel_rfl);have hb:=run_neq_struct (P:=P) w aW #[hY l.sp,hY l.i,hY l.tab,hX (bs l.text),.int .u8 l.nl.toNat] #[hY m.sp,hY m.i,hY m.tab,hX (bs m.text),.int .u8 m.nl.toNat]
 have O:(Op.equalIn 10000 aW (.agg #[hY l.sp,hY l.i,hY l.tab,hX (bs l.text),.int .u8 l.nl.toNat]) (.agg #[hY m.sp,hY m.i,hY m.tab,hX (bs m.text),.int .u8 m.nl.toNat])).run P w= .ok false w:=by
  rw[run_equalIn_struct w 9999 aW _ _ (by kernel_rfl) (by kernel_rfl)];refine sH (gs:= [(bg,0),(bg,1),(bg,2),(aq,3),(dx,4)]) tN ?_ ⟨(aq,3),by simp,?_⟩
  ·intro U E;simp only[lX0,lV5,or_false] at E;rcases E with rfl|rfl|rfl|rfl|rfl
   ·exact vj pO rfl rfl
   ·exact vj pO rfl rfl
   ·exact vj pO rfl rfl
   ·exact FI rfl rfl
   ·exact vj Ed rfl rfl
  ·refine⟨hX (bs l.text),hX (bs m.text),jA mu (λ_ h=>by cases h) (λ_ _ h=>by cases h) rfl w,jA mu (λ_ h=>by cases h) (λ_ _ h=>by cases h) rfl w,?_⟩;have e:((bs l.text).toList==(bs m.text).toList)=false:=by
    rw[cX,cX]
    simpa using I
   refine(run_equalIn_string w 9998 aq (bs l.text) (bs m.text) mu).trans ?_;rw[e]
 rw[lW0,E,lJ0];refine hb.trans ?_;rw[O];rfl
theorem wP {X:OA->Nat->WP}(e3: ∀b8 c1 w,aj.bl1 R X b8 c1 w->X b8 c1 w){b b1 j:Nat}{p:PS}{ob:List OB}{o:OB}{M:List ai}{l l2:Ln}{ok:Bool}{Post:PS->List ai->Prop}(h:Sat σ w (l.at b1::(p.at b::M++L)))(hs:Stk p ob M)(hd:p.depth=j)(e8:j<1000000)(O:ob[j+1]? =some o)(e5:l.ok)(hb:l.blank=false)(c3: ∀p2 g,Post p2 g->p2= {p with corner:=p2.corner})(d2:ok=true\/l2.text≠l.text)(e1: ∀(b9:Ending->World->Prop) b0 w,Sat σ w (l.at b0::l.at b1::(p.at b::M++L))->(∀w p2 g,Post p2 g->Sat σ w (l.at b0::l.at b1::(p2.at b::M++g))->b9 (hQ (.tuple #[l2.val,hV ok])) w)->cW P (callMethod o.bd "pub-paratext/pub/rscmarkdown.extend" #[kT (kE b),l.val]) b9 w)
 (c9:ok=true-> ∀w p2 g y,Post p2 g->Stk ({p2 with depth:=(j:Int)+1}:PS) (ob.set (j+1) (o.setE p.lineno)) y->Sat σ w (l2.at b1::(({p2 with depth:=(j:Int)+1}:PS).at b::y++g))->X (kE b) b1 w)
 (c2:ok=false-> ∀w p2 g y,Post p2 g->Stk p2 (ob.set (j+1) (o.setE p.lineno)) y->Sat σ w (l2.at b1::(p2.at b::y++g))->aj.k2 R (kE b) b1 w):X (kE b) b1 w:=by
 have b5:=(lL0.1 O).1;have d3:=hs.2.2;have I:=hs.2.1;have e6:=hs;obtain⟨sb,sp,a7,b6,d0⟩:=hs.split (by intro e4;rw[e4] at b5;simp at b5);refine e3 _ _ _ ?_;have h:Sat σ w (l.at b1::p.at b::(M++L)):=h
 refine Sat.tk h λw h=>aa (aa ?_)
 refine⟨_,Sat.ld h (.tail _ (.head _)) (i:=5) rfl,_,_,_,Sat.ld h (.tail _ (.head _)) (i:=4) rfl,?_⟩;rw[hd,i64_in _ (by omega),I];refine ag (by simp;omega) ?_;refine⟨_,h.ldA,?_⟩;refine⟨_,h.ldA,?_⟩;refine⟨_,h.ldA,?_⟩;refine⟨_,h.ldA,?_⟩;refine⟨_,h.ldA,?_⟩;refine Sat.bx h λb0 w h=>?_
 refine h.stA 0 λw h=>?_
 refine h.stA 0 λw h=>?_
 refine h.stA 0 λw h=>?_
 refine h.stA 0 λw h=>?_
 refine h.stA 0 λw h=>?_
 have h:Sat σ w (l.at b0::l.at b1::p.at b::(M++L)):=h
 refine Sat.tk h λw h=>aa (aa ?_)
 refine⟨_,_,_,Sat.ld h (.tail _ (.tail _ (.head _))) (i:=4) rfl,_,Sat.ld h (.tail _ (.tail _ (.head _))) (i:=5) rfl,?_⟩;rw[hd,i64_in _ (by omega),I,a7];refine⟨by omega,by omega,aa ?_⟩;have b3:((j:Int)+1).toNat=j+1:=by omega
 rw[b3];simp only[lK0,lN0];have c4:(sb,cel (aP ob++sp) ay)∈(l.at b0::l.at b1::p.at b::(M++L)):=by rw[b6];simp
 refine⟨o.bd,Sat.ld h c4 (fe (j:=j+1) (f:=0) (by decide) O),?_⟩;have H:l.at b1∈(l.at b0::l.at b1::p.at b::(M++L)):= .tail _ (.head _)
 refine⟨_,Sat.ld h H (i:=0) rfl,_,Sat.ld h H (i:=1) rfl,_,Sat.ld h H (i:=2) rfl,_,Sat.ld h H (i:=3) rfl,_,Sat.ld h H (i:=4) rfl,?_⟩;refine e1 _ b0 w h λw p2 g W h=>⟨_,_,_,_,_,_,rfl,?_⟩
 have E:=c3 p2 g W;have b4:p2.depth=j:=by rw[E];exact hd
 have d1:p2.stn=ob.length:=by rw[E];exact I
 have e0:p2.stq=kE sb:=by rw[E];exact a7
 have c8:p2.lineno=p.lineno:=by rw[E]
 have e7:p2.stc=p.stc:=by rw[E]
 have h:Sat σ w (l.at b0::l.at b1::(p2.at b::M++g)):=h
 refine h.stA 1 λw h=>?_
 refine h.stA 1 λw h=>?_
 refine h.stA 1 λw h=>?_
 refine h.stA 1 λw h=>?_
 refine h.stA 1 λw h=>?_
 have h:Sat σ w (l.at b0::l2.at b1::(p2.at b::M++g)):=h
 refine dC h (.head _) e5 λw h=>⟨_,rfl,?_⟩
 rw[hb];have b7: ∀(a6:Bool) w,Sat σ w (l.at b0::l2.at b1::p2.at b::(M++g))->(∀w y,Stk p2 (ob.set (j+1) (o.setE p.lineno)) y->Sat σ w (l.at b0::l2.at b1::p2.at b::(y++g))->
  br (!a6) (aj.k2 R (kE b) b1 w) (aj.k3 R X (kE b) b1 w))->aj.k1 R X (kE b) b1 a6 true w:=by
  intro a6 w h e2;refine ag rfl (h.tk λw h=>aa (aa (aa ?_)));have V:p2.at b∈(l.at b0::l2.at b1::p2.at b::(M++g)):= .tail _ (.tail _ (.head _))
  refine⟨_,_,_,Sat.ld h V (i:=4) rfl,_,Sat.ld h V (i:=5) rfl,_,Sat.ld h V (i:=3) rfl,?_⟩;rw[b4,i64_in _ (by omega),d1,e0,c8];refine⟨by omega,by omega,aa ?_⟩;rw[b3];simp only[lK0,lN0,lN1];have h:Sat σ w ((sb,cel (aP ob++sp) ay)::l.at b0::l2.at b1::p2.at b::g):=by
   rw[b6] at h;exact h.re
  refine Sat.st h (k:=0) rfl (by rw[lA0,aR];omega) trivial rfl λw h=>?_
  rw[uu O] at h;have h:Sat σ w ((sb,cel (aP (ob.set (j+1) (o.setE p.lineno))++sp) ay)::l.at b0::l2.at b1::p2.at b::g):=h
  refine e2 w [(sb,cel (aP (ob.set (j+1) (o.setE p.lineno))++sp) ay)] ?_ h.re;have c5:=Stk.setE (p:=p) (m:=p.lineno) a7 I d3 d0 O
  exact c5.of (by rw[E]) (by rw[E]) (by rw[E])
 cases ok with
 |true=>
  refine ag rfl (ag rfl ?_);refine b7 true w h λw y U h=>ae rfl ?_
  unfold aj.k3;refine aa ⟨_,Sat.ld h (.tail _ (.tail _ (.head _))) (i:=5) rfl,aa ?_⟩;rw[b4,i64_in _ (by omega)];refine Sat.st h (k:=2) rfl (by simp[PS.cells]) trivial rfl λw h=>?_
  have h:Sat σ w (l.at b0::l2.at b1::({p2 with depth:=(j:Int)+1}:PS).at b::(y++g)):=h
  exact c9 rfl w p2 g y W (U.of rfl rfl rfl) (h.less [l.at b0])
 |false=>
  refine ag rfl (ae rfl ?_);have h:Sat σ w (l.at b0::l2.at b1::p2.at b::(M++g)):=h
  refine⟨_,h.ldA,?_⟩;refine⟨_,h.ldA,?_⟩;refine⟨_,h.ldA,?_⟩;refine⟨_,h.ldA,?_⟩;refine⟨_,h.ldA,?_⟩;refine⟨_,h.ldA,?_⟩;refine⟨_,h.ldA,?_⟩;refine⟨_,h.ldA,?_⟩;refine⟨_,h.ldA,?_⟩;refine⟨_,h.ldA,?_⟩;refine⟨true,w,Ds (d2.resolve_left (by decide)) (.tmp 55) (.tmp 56) w,?_⟩;refine b7 false w h λw y U h=>ag rfl ?_
  exact c2 rfl w p2 g y W U (h.less [l.at b0])

theorem Db {f:Nat}{s:List UInt8}(hs: ∀c∈s,c≠(96:UInt8)):tD 96 (hN f 96++s)=f:=by
 induction f with
 |zero=>
  cases s with
  |nil=>rfl
  |cons c s=>simp[tD,lC3,hs c (by simp)]
 |succ f g=>
  simp only[tD,lX1,lQ0,lC3,beq_self_eq_true,if_true,lF0];exact congrArg (· +1) g
theorem lV {c:UInt8}(h:Ax c=true):c≠96/\c≠92/\c≠38/\cL c=false/\c<128/\spB c=false:=by
 have hd: ∀c:Fin 256,Ax (UInt8.ofNat c.val)=true->UInt8.ofNat c.val≠96/\UInt8.ofNat c.val≠92/\UInt8.ofNat c.val≠38/\cL (UInt8.ofNat c.val)=false/\UInt8.ofNat c.val<128/\spB (UInt8.ofNat c.val)=false:=by decide+kernel
 have:=hd ⟨c.toNat,c.toNat_lt⟩
 simpa using this (by simpa using h)
theorem mI {p:UInt8->Bool}{s:List UInt8}(h: ∀c∈s,p c=false):gf p s=s:=by
 have g: ∀ {t:List UInt8},(∀c∈t,p c=false)->t.dropWhile p=t:=by
  intro t ht;cases t with
  |nil=>rfl
  |cons c t=>rw[lB3,ht c (by simp)];rfl
 unfold gf vC;rw[g h,g (λc hc=>h c (by simpa using hc)),lL6]

def nY (g s e:Nat):OB:=⟨.iface gA (kT (kE g)),none,0,0,s,e⟩
theorem yB {b U s e:Nat}{p:PS}{ob:List OB}{par:OB}{M O IM:List ai}{inner:List Value}{F info:List UInt8}{ls:List (List UInt8)}(h:Sat σ w (p.at b::M++(IM++(O++L))))(hs:Stk p (ob++ [par]++ [nY U s e]) M)(c3:Sl 1 aO par.q par.n par.c inner IM)(b5:par.n<1000000)(c4:xh U F info ls O)(c2: ∀w p' a7 V nb q c g H E x,p'= {p with stn:=ob.length+1}->Stk p' (ob++ [{par with q:=H,n:=par.n+1,c:=E}]) a7->Sl 1 aq q ls.length c (sv ls) g->
  Sl 1 aO H (par.n+1) E (inner++ [.iface cI (kT (kE nb))]) V->Sat σ w (p'.at b::a7++(V++(AB nb s e F info q ls.length c::(g++L))))->R (hQ x) w):
 callE P aJ #[kT (kE b)] R w:=by
 refine pC (ob:=ob) (par:=par) (o:=nY U s e) (IM:=IM) (inner:=inner) (λb3 a6 W q=> ∃nb y c g,b3=p/\Sl 1 aq y ls.length c (sv ls) g/\a6=AB nb s e F info y ls.length c::(g++L)/\W=cI/\q=kE nb) h hs rfl c3 b5 ?_ ?_
 ·intro c8 w h c1;have h:Sat σ w (p.at b::M++(O++(IM++L))):=h.re
  refine bm uI ?_;refine yp h hs c4 λw nb q c g I h=>?_
  have h:Sat σ w (p.at b::M++(AB nb s e F info q ls.length c::(g++(IM++L)))):=h
  exact c1 w p _ cI _ rfl rfl rfl (by decide) ⟨nb,q,c,g,rfl,I,rfl,rfl,rfl⟩ (h.re)
 ·intro w p2 c5 b6 b3 a6 W q H E b4 b9 b8 b7 h;obtain⟨nb,y,c,g,rfl,I,rfl,rfl,rfl⟩:=b4;exact c2 w p2 c5 b6 nb y c g H E _ b9 b8 I b7 h
def mm (nb s e:Nat)(F info:List UInt8)(q:Option Addr)(n c:Nat)(g:List ai):DB:=⟨.iface cI (kT (kE nb)),AB nb s e F info q n c::g,[]⟩

theorem LnR.strip {c:UInt8}{r:List UInt8}(hc:cL c=false): ∀(k m n:Nat) {l:Ln},k<=m->LnR l (hN k 32++c::r)->l.strip m n=(n+k,{l with i:=l.i+k})
 |0,0,n,l,_,h=>by simp[Ln.strip]
 |0,m+1,n,l,_,h=>by
  have h:LnR l (c::r):=h
  have e:l.trimSp 1 1 false=none:=by unfold Ln.trimSp;rw[h.has.tsGo hc];rfl
  simp[Ln.strip,e]
 |k+1,0,n,l,hk,h=>absurd hk (by omega)
 |k+1,m+1,n,l,hk,h=>by
  have h:LnR l (32::(hN k 32++c::r)):=by rw[lX1] at h;exact h
  have e:l.trimSp 1 1 false=some {l with i:=l.i+1}:=LnR.tsPad (mn:=1) (e:=false) (s:=hN k 32++c::r) 1 0 h
  have g:=LnR.strip hc k m (n+1) (by omega) (LnR.skip (a:= [32]) h);simp only[Ln.strip,e];refine g.trans ?_
  show (n+1+k,({l with i:=l.i+1+k}:Ln))=(n+(k+1),{l with i:=l.i+(k+1)})
  rw[lU3 n,lU3 l.i,lD3,lD3]
theorem sF {f:Nat}{word:List UInt8}{l:Ln}(b7:3<=f)(E: ∀c∈word,Ax c=true)(a6:LnR l (hN f 96++word)):
 ¬ xg l/\(∀n c t info,ra l n c t info->n=f/\c=96/\info=word)/\(l.strip 3 0).1=0/\ra l f 96 word word:=by
 obtain⟨y,rfl⟩: ∃y,f=y+1:=⟨f - 1,by omega⟩
 have b3:l.has 96 (hN y 96++word):=LnR.has (by rw[lX1] at a6;exact a6);have I:l.strip 3 0=(0,l):=b3.strip (by decide);have hr:tD 96 (hN (y+1) 96++word)=y+1:=Db λc hc=>(lV (E c hc)).1
 have a7: ∀t,UnE (gf cL word) t->t=word:=by
  intro t ht;have b5:gf cL word=word:=mI λc hc=>(lV (E c hc)).2.2.2.1
  rw[b5] at ht;exact ht.2 λc hc=>⟨(lV (E c hc)).2.1,(lV (E c hc)).2.2.1⟩
 have U: ∀n,n=y+1->(hN (y+1) (96:UInt8)++word).drop n=word:=by
  intro n b6;subst b6;rw[lJ2 (by simp),lF6 (by simp)];rfl
 have W:l.peek=96:=b3.peek;have H:l.text.drop l.i=hN (y+1) 96++word:=a6.tx;have V: ∀n,l.text.drop (l.i+n)=(hN (y+1) (96:UInt8)++word).drop n:=λn=>by rw[<-lJ5,H]
 have b4:gf cL word=word:=mI λc hc=>(lV (E c hc)).2.2.2.1
 refine⟨?_,?_,by rw[I],?_⟩
 rotate_left 2
 ·unfold ra;rw[I];simp only[W,H,V,hr];rw[U _ rfl,b4];refine⟨.inl ?_,b7,?_,?_,⟨by omega,λ_=>rfl⟩,?_,λ_ O=>(lV (E 96 O)).1 rfl⟩<;>trivial
 ·unfold xg;rw[I];simp only[W,H,V,hr]
  rintro (⟨h,_⟩|h|⟨_,t,ht,O⟩)
  ·exact h rfl
  ·omega
  ·rw[U _ rfl] at ht;rw[a7 t ht] at O;exact(lV (E 96 O)).1 rfl
 ·intro n c t info;unfold ra;rw[I];simp only[W,H,V]
  rintro ⟨h1,h2,h3,h4,h5,h6,h7⟩
  subst h3;rw[hr] at h4;subst h4;rw[U _ rfl] at h5;have:=a7 t h5;subst this;exact⟨rfl,rfl,h6.trans (mI λc hc=>(lV (E c hc)).2.2.2.1)⟩
def CW (s e:Nat)(F info:List UInt8)(ls:List (List UInt8)):Leaf:= .other λob M=> ∃g,ob= [nY g s e]/\xh g F info ls M/\s<1000000000
theorem zK (f5:op.task=false){j1:OA->Nat->WP}{b b1 pb f:Nat}{xs:List IN}{gs junk:List Bk}{top:Bk}{p:PS}{l:Ln}{word:List UInt8}{ec:ai}(d0:Pd G op xs junk .none)(h:DocC σ b (l.at b1::L) (gs++top::junk) .none p w)(hd:p.depth=gs.length)(e2:gs.length<900000)(ht:top.box_)(b6:LnR l (hN f 96++word))(g1:l.text.length<100000)(o2:3<=f)(p5:f<50000)(c9: ∀c∈word,Ax c=true)(q0:word.length<10000)(i2:As ec)(c2:ec∈L)(n0: ∀g∈gs++top::junk,g.D.length<=90000)(j0:(txF (gs++top::junk)).length<=90000)(g6:p.pz=kE pb)(h5:op.at pb∈L)(e0:p.lineno<1000000000)(U: ∀w (p':PS) E a7,p'.base=p.base->p'.lineno=p.lineno->E.like top->E.D=top.D++a7->TDs G op a7 xs->(cj a7).length<=(txF junk).length+1->DocC σ b L (gs++ [E]) (CW p.lineno p.lineno (hN f 96) word []) p' w->R (hQ (.tuple #[])) w):
 aj.bl102 R j1 (kE b) b1 w:=by
 obtain⟨k0,m2,p1,_⟩:=sF o2 c9 b6;have a6:=b6.ok;have W:l.has 96 (hN (f - 1) 96++word):=LnR.has (by
  have e:f=(f - 1)+1:=by omega
  rw[e,lX1] at b6;exact b6)
 have b4: ∀e,l.lead 3 e=l:=W.lead (by decide) 2
 have h0:(l.lead 3 false).peek=96:=by rw[b4];exact W.peek
 have n2:l.quote=none:=by unfold Ln.quote;rw[b4,W.trimC,if_neg (by decide)];rfl
 have h7:l.heading=none:=by unfold Ln.heading;rw[b4,W.trimC,if_neg (by decide)]
 have h6:l.isHR=false:=by
  unfold Ln.isHR;simp only[b4,W.peek];rw[if_neg (by decide)]
 have g7:LDecl l:=LDecl.of_peek a6 (by rw[W.strip (by decide),W.peek];decide);obtain⟨e8,e6,t1,i8,n3⟩:=ht;have d3:top.np:=⟨e8,e6,t1,i8⟩;obtain⟨M,c8,p4,q8,b8,h2,h9,⟨rfl,rfl⟩,h⟩:=h;rw[lG0] at b8;have h:Sat σ w (p.at b::M++(l.at b1::(c8++(aM (gs++top::junk)++L)))):=h.re
 have g0:=nC (b:=b) (l:=l) b8 hd e2 d3 d0.next (d0.last rfl gs top d3) a6
 refine nT 6 (by decide) h ?_ λw nb e4 c5 h m4=>?_
 ·intro j q5 l5 σ w L R h U
  match j,l5 with
  |0,_=>exact ip (x:= .nilIface) h a6 n2 U
  |1,_=>exact lw h a6 h7 U
  |2,_=>exact g0 σ w L R h U
  |3,_=>exact rx h a6 h6 U
  |4,_=>exact g7 b gs.length p _ top.ob M e8 e6 b8 hd (by simp) t1 n3 σ w L R h U
  |5,_=>exact nE h a6 (by rw[h0];decide) U
 show callE P j2 _ c5 w
 generalize f0:l.at b1::(nb,cel newsC e4)::(c8++(aM (gs++top::junk)++L))=K at h
 have c2:ec∈K:=by rw[<-f0];simp[c2]
 refine dP.sound ?_;refine Sat.bx h λb2 w h=>?_
 refine Sat.bx h λy w h=>?_
 refine Sat.bx h λI w h=>?_
 refine Sat.bx h λH w h=>?_
 refine Sat.bx h λO w h=>?_
 repeat (first|refine aa ?_|refine h.tk λw h=>?_|refine⟨_,h.ldA,?_⟩|refine⟨_,_,_,h.ldA,?_⟩|refine h.stA 0 λw h=>?_|refine h.stA 1 λw h=>?_|refine h.stA 2 λw h=>?_|refine h.stA 3 λw h=>?_|refine h.stA 4 λw h=>?_|refine h.stA 5 λw h=>?_|refine h.stA 6 λw h=>?_|refine h.bx λb0 w h=>?_)
 have h:Sat σ _ (l.at b0::(O,cel [hY 0] bg)::(H,cel [hX (bs [])] aq)::(I,cel [hX (bs [])] aq)::(zLn y::l.at b2::(p.at b::(M++K)))):=h
 refine oZ h a6 g1 i2 (by simp[c2]) (λo3=>absurd o3 k0) λn c t info i1 w h=>?_
 obtain⟨rfl,rfl,rfl⟩:=m2 n c t info i1;rw[p1] at h;refine⟨_,rfl,ag rfl ?_⟩;refine⟨_,Sat.ld h (.tail _ (.tail _ (.tail _ (.head _)))) (i:=0) rfl,by decide,by simp;omega,?_⟩;have h4:bt (bs (hN n (96:UInt8))) 0=96:=by
  have:=oO (l:=hN n (96:UInt8)) (i:=0) (by simp;omega)
  rw[show ((0:Nat):Int)=0 from rfl] at this;rw[this];simp
 refine ae (by rw[h4];rfl) (ae rfl ?_);have h:Sat σ w ((O,cel [hY ((0:Nat):Int)] bg)::(H,cel [hX (bs info)] aq)::(I,cel [hX (bs (hN n 96))] aq)::zLn y::(Ln.zero.at b0::l.at b2::(p.at b::(M++K)))):=h.re
 have k4: ∀w,Sat σ w ((O,cel [hY ((0:Nat):Int)] bg)::(H,cel [hX (bs info)] aq)::(I,cel [hX (bs (hN n 96))] aq)::zLn y::(Ln.zero.at b0::l.at b2::(p.at b::(M++K))))->dP.k4 c5 (kE b) y I H O w:=by
  intro w h;refine⟨_,Sat.ld h (.tail _ (.tail _ (.head _))) (i:=0) rfl,_,Sat.ld h (.tail _ (.head _)) (i:=0) rfl,_,Sat.ld h (.head _) (i:=0) rfl,?_⟩;refine Sat.bx h λV w h=>?_
  have h:Sat σ w (oV V (hN n 96) info none 0 0::(O,cel [hY ((0:Nat):Int)] bg)::(H,cel [hX (bs info)] aq)::(I,cel [hX (bs (hN n 96))] aq)::zLn y::(Ln.zero.at b0::l.at b2::(p.at b::(M++K)))):=h
  have g5:DocC σ b (oV V (hN n 96) info none 0 0::(zLn y::l.at b1::L)) (gs++top::junk) .none p w:=by
   refine⟨M,c8,[],[],by rw[lG0];exact b8,h2,h9,⟨rfl,rfl⟩,?_⟩;rw[<-f0] at h;exact h.less [(O,cel [hY ((0:Nat):Int)] bg),(H,cel [hX (bs info)] aq),(I,cel [hX (bs (hN n 96))] aq),Ln.zero.at b0,l.at b2,(nb,cel newsC e4)]
  refine pH (pb:=pb) (d0.close f5) (.tail _ (.tail _ h5)) g6 n0 j0 g5 hd e2 e0 λw p' E a7 c1 o0 i3 q4 k1 k2 k3 k4 o4 m3 m5 m6 h=>⟨rfl,?_⟩
  have n1:gs++ [E,c1]=(gs++ [E])++ [c1]:=by simp
  rw[n1] at h;have m1:(λ(ob:List OB) (M:List ai)=>ob= [nY V p.lineno p.lineno]/\xh V (hN n 96) info [] M) [c1.ob] c1.own:=⟨by rw[o4];rfl,by rw[m3];exact⟨none,0,[],Sl.nil 1 aq,rfl⟩⟩
  have h:=DocC.toLeaf (A:=λ(ob:List OB) (M:List ai)=>ob= [nY V p.lineno p.lineno]/\xh V (hN n 96) info [] M) h m5 m6 m1
  obtain⟨d1,c4,p3,c3,h1,f6,g4,⟨rfl,g2⟩,h⟩:=h;have h:Sat σ w (zLn y::l.at b1::(p'.at b::d1++(c4++(aM (gs++ [E])++(c3++L))))):=h.re
  repeat (first|refine aa ?_|refine h.tk λw h=>?_|refine⟨_,h.ldA,?_⟩|refine⟨_,_,_,h.ldA,?_⟩|refine h.stA 0 λw h=>?_|refine h.stA 1 λw h=>?_|refine h.stA 2 λw h=>?_|refine h.stA 3 λw h=>?_|refine h.stA 4 λw h=>?_|refine h.stA 5 λw h=>?_|refine h.stA 6 λw h=>?_|refine h.bx λb0 w h=>?_)
  have h:Sat σ _ (zLn y::l.at b1::(p'.at b::d1++(c4++(aM (gs++ [E])++(c3++L))))):=h
  refine m4 _ _ h.tail λw h=>?_
  exact U w p' E a7 o0 i3 k1 k2 k3 k4 ⟨d1,c4,_,c3,h1,f6,g4,⟨V,rfl,g2,e0⟩,h.re⟩
 have k2:dP.k2 c5 (kE b) y I H O w:=by
  refine⟨_,Sat.ld h (.tail _ (.head _)) (i:=0) rfl,?_⟩;refine Dj h λw e7 h=>?_
  intro X e5;have i0: ∀k i w,i+k=info.length->Sat σ w ((e7,.stringIter (bs info) i)::((O,cel [hY ((0:Nat):Int)] bg)::(H,cel [hX (bs info)] aq)::(I,cel [hX (bs (hN n 96))] aq)::zLn y::(Ln.zero.at b0::l.at b2::(p.at b::(M++K)))))->X (kE b) y I H O (kT (kE e7)) w:=by
   intro k
   induction k with
   |zero=>
    intro i w hi h;exact e5 _ _ _ _ _ _ _ (.inl ⟨_,Dr h (by simp;omega),k4 w h.tail⟩)
   |succ k m8=>
    intro i w hi h;have e1:i<info.length:=by omega
    have h8:i<(bs info).size:=by simpa using e1
    have hc:=lV (c9 info[i] (lP1 e1));have g3:info[i].toNat<128:=lJ6.1 hc.2.2.2.2.1;refine e5 _ _ _ _ _ _ _ (.inr (Fh h h8 (by show info[i].toNat<128;exact g3) λw h=>?_))
    show callE P dF #[.int .i32 ((info[i].toNat:Nat):Int)] _ w
    refine ly hc.2.2.2.2.1 ⟨_,rfl,ae hc.2.2.2.2.2 (m8 (i+1) w (by omega) h)⟩
  exact i0 info.length 0 w (by omega) h
 refine⟨_,Sat.ld h (.tail _ (.head _)) (i:=0) rfl,?_⟩
 by_cases hi:info= []
 ·refine ae (by rw[hi,cX,gi];rfl) (ae rfl k2)
 ·refine ag (by rw[cX,gi];simpa using hi) ?_;have d2:0<info.length:=lY0.2 hi;refine⟨_,Sat.ld h (.tail _ (.head _)) (i:=0) rfl,λ_=>⟨by decide,by simp;omega⟩,?_⟩;have e3:=oO (l:=info) (i:=0) d2
  rw[show ((0:Nat):Int)=0 from rfl] at e3;rw[e3];refine yb ⟨_,rfl,?_⟩;rw[c9 info[0] (lP1 d2)];exact ae rfl k2

theorem DF {X:OA->Nat->WP}(b3: ∀b4 b6 w,aj.bl1 R X b4 b6 w->X b4 b6 w){b b1 s e:Nat}{p:PS}{gs:List Bk}{F info:List UInt8}{ls:List (List UInt8)}{l:Ln}{ec:ai}(h:DocC σ b (l.at b1::L) gs (CW s e F info ls) p w)(hd:p.depth+1=gs.length)(e6:0<gs.length/\gs.length<900000)(b9:l.ok)(hb:l.blank=false)(c8:l.text.length<100000)(c4:ls.length<1048576)(d3:As ec)(c5:ec∈L)(b7:vp F l)(e1: ∀w (p':PS),p'.base=p.base->p'.lineno=p.lineno->DocC σ b L gs (CW s p.lineno F info (ls++ [l.str])) p' w->R (hQ (.tuple #[])) w):X (kE b) b1 w:=by
 obtain⟨M,I,e5,b8,hs,c2,d0,⟨E,rfl,e3,c3⟩,h⟩:=h;have d1:p.depth=((gs.length - 1:Nat):Int):=by omega
 have d2:(gs.map Bk.ob++ [nY E s e])[gs.length - 1+1]? =some (nY E s e):=by
  rw[show gs.length - 1+1=gs.length by omega];simp
 have c1:(gs.map Bk.ob++ [nY E s e]).set (gs.length - 1+1) ((nY E s e).setE p.lineno)=gs.map Bk.ob++ [nY E s p.lineno]:=by
  rw[show gs.length - 1+1=gs.length by omega,lO1 _ _ (by simp),lS0,lV1];rfl
 have h:Sat σ w (l.at b1::(p.at b::M++(b8++(I++(aM gs++L))))):=h.re
 refine wP (l2:=Ln.zero) (ok:=true) (Post:=λp2 b5=>p2= {p with corner:=p2.corner}/\ ∃g,xh E F info (ls++ [l.str]) g/\b5=g++(I++(aM gs++L))) b3 h hs d1 (by omega) d2 b9 hb (λ_ _ h=>h.1) (.inl rfl) (λe7 b0 w h e0=>?_) (λ_ w p2 b5 V e4 O h=>?_) (λa6=>absurd a6 (by decide))
 ·refine bm oo ?_;have h:Sat σ _ (p.at b::(b8++(l.at b0::l.at b1::(M++(I++(aM gs++L)))))):=h.re
  refine qQ h e3 b9 c4 c8 d3 (by simp[c5]) (λ_ w p2 g y U h=>?_) (λa6=>absurd b7 a6) (.inl b7);exact e0 w p2 _ ⟨y,g,U,rfl⟩ h.re
 ·obtain⟨y,g,U,rfl⟩:=e4;rw[c1] at O;have e2:((gs.length - 1:Nat):Int)+1=(gs.length:Nat):=by omega
  rw[e2] at O h;generalize H:({p2 with depth:=(gs.length:Nat)}:PS)=p3 at h O;have c9:p3.depth=(gs.length:Nat):=by rw[<-H]
  have W:=O.2.1;rw[lA0,lS0,lE0] at W;refine b3 _ _ _ ?_;have h:Sat σ w (Ln.zero.at b1::p3.at b::(V++(g++(I++(aM gs++L))))):=h
  refine Sat.tk h λw h=>aa (aa ?_)
  refine⟨_,Sat.ld h (.tail _ (.head _)) (i:=5) rfl,_,_,_,Sat.ld h (.tail _ (.head _)) (i:=4) rfl,?_⟩;have a7:i64.wrap (p3.depth+1)=((gs.length+1:Nat):Int):=by rw[c9,i64_in _ (by omega)];omega
  rw[a7,W];refine ae (by simp) ?_;unfold aj.k2;refine dC (l:=Ln.zero) h (.head _) ⟨by decide,by decide,by decide,by decide⟩ λw h=>⟨_,rfl,?_⟩
  refine ag rfl (aa ⟨_,Sat.ld h (.tail _ (.head _)) (i:=5) rfl,?_⟩);rw[a7];have h:Sat σ w (p3.at b::(Ln.zero.at b1::(V++(g++(I++(aM gs++L)))))):=h.re
  refine n8 h (by rw[W]) λw h=>⟨rfl,?_⟩
  refine e1 w p3 (by rw[<-H,y];rfl) (by rw[<-H,y]) ⟨V,I,_,g,O,c2.of (by rw[<-H,y]) (by rw[<-H,y]) (by rw[<-H,y]),d0,⟨E,rfl,U,c3⟩,?_⟩;exact h.less [Ln.zero.at b1]
theorem Cr {b s e:Nat}{p:PS}{gs:List Bk}{top:Bk}{F info:List UInt8}{ls:List (List UInt8)}(h:DocC σ b L (gs++ [top]) (CW s e F info ls) p w)(d0:top.D.length<=90000)(c1: ∀w H nb q c y x,H.like top->H.D=top.D++ [mm nb s e F info q ls.length c y]->Sl 1 aq q ls.length c (sv ls) y->s<1000000000->DocC σ b L (gs++ [H]) .none {p with stn:=gs.length+1} w->R (hQ x) w):
 callE P aJ #[kT (kE b)] R w:=by
 obtain⟨M,O,c8,c5,hs,b5,W,⟨c4,rfl,c3,b7⟩,h⟩:=h;have hs:Stk p (gs.map Bk.ob++ [top.ob]++ [nY c4 s e]) M:=by simpa using hs
 obtain⟨U,b4⟩:=W top (by simp);have c9:top.ob.n=top.D.length:=by have:=U.1;simp at this;omega
 rw[bh,dy] at h;have h:Sat σ w (p.at b::M++(top.IM++(c5++(O++(aM gs++(top.own++(cV top.D++(txc top.D++L)))))))):=h.re
 refine yB (ob:=gs.map Bk.ob) (par:=top.ob) h hs U (by omega) c3 λw p' a6 I nb q c y b3 a7 x b6 V b9 b8 h=>?_
 have c2:p'= {p with stn:=gs.length+1}:=by rw[b6,lS0]
 rw[c2] at V h;refine c1 w ⟨{top.ob with q:=b3,n:=top.ob.n+1,c:=a7},top.own,top.D++ [mm nb s e F info q ls.length c y],I⟩ nb q c y x ⟨rfl,rfl,rfl,rfl⟩ rfl b9 b7 ⟨a6,O,[],[],?_,?_,?_,⟨rfl,rfl⟩,?_⟩
 ·rw[lV0,lG0];exact V
 ·have:txF (gs++ [⟨{top.ob with q:=b3,n:=top.ob.n+1,c:=a7},top.own,top.D++ [mm nb s e F info q ls.length c y],I⟩])=txF (gs++ [top]):=by
   rw[bE,bE,dH,dH,jy];simp[mm]
  rw[this];exact b5.of rfl rfl rfl
 ·intro g E;rcases lO0.1 E with E|E
  ·exact W g (by simp[E])
  ·obtain rfl:=lR0.1 E;exact⟨by rw[lV0];exact b8,by simp;omega,b4.2⟩
 ·rw[bh,dy,lu,nB]
  show Sat σ w (_::a6++(O++(aM gs++(I++(top.own++((cV top.D++(AB nb s e F info q ls.length c::y))++(txc top.D++ []))))++([]++L))))
  exact h.re
theorem FD {X:OA->Nat->WP}(e8: ∀a7 b5 w,aj.bl1 R X a7 b5 w->X a7 b5 w){b b1 s e:Nat}{p:PS}{gs:List Bk}{top:Bk}{F info:List UInt8}{ls:List (List UInt8)}{l:Ln}{ec:ai}(h:DocC σ b (l.at b1::L) (gs++ [top]) (CW s e F info ls) p w)(hd:p.depth=gs.length)(g0:gs.length<900000)(b6:l.ok)(hb:l.blank=false)(d2:l.text.length<100000)(d0:ls.length<1048576)(e4:As ec)(d1:ec∈L)(f0: ¬ vp F l)(c8:CO F l)(e9:top.D.length<=90000)(e6: ∀w (p':PS) I nb q c O,p'.base=p.base->p'.lineno=p.lineno->I.like top->I.D=top.D++ [mm nb s p.lineno F info q ls.length c O]->Sl 1 aq q ls.length c (sv ls) O->s<1000000000->DocC σ b L (gs++ [I]) .none p' w->R (hQ (.tuple #[])) w):X (kE b) b1 w:=by
 obtain⟨M,y,f5,H,hs,c5,d3,⟨E,rfl,b3,c9⟩,h⟩:=h;have e0:((gs++ [top]).map Bk.ob++ [nY E s e])[gs.length+1]? =some (nY E s e):=by simp
 have b7:((gs++ [top]).map Bk.ob++ [nY E s e]).set (gs.length+1) ((nY E s e).setE p.lineno)=(gs++ [top]).map Bk.ob++ [nY E s p.lineno]:=by
  rw[lO1 _ _ (by simp),lS0,lA0,lE0,lV1];rfl
 have b9:Ln.zero.text≠l.text:=by
  intro g;have:l.blank=true:=by unfold Ln.blank;rw[<-g,show Ln.zero.text= [] from rfl,List.drop_nil];rfl
  rw[hb] at this;cases this
 have h:Sat σ w (l.at b1::(p.at b::M++(H++(y++(aM (gs++ [top])++L))))):=h.re
 refine wP (l2:=Ln.zero) (ok:=false) (Post:=λp2 b4=>p2=p/\b4=H++(y++(aM (gs++ [top])++L))) e8 h hs hd (by omega) e0 b6 hb (λ_ _ h=>by rw[h.1]) (.inr b9) (λg4 b0 w h e5=>?_) (λg=>absurd g (by decide)) (λ_ w p2 b4 V f1 U h=>?_)
 ·refine bm oo ?_;have h:Sat σ _ (p.at b::(H++(l.at b0::l.at b1::(M++(y++(aM (gs++ [top])++L)))))):=h.re
  refine qQ h b3 b6 d0 d2 e4 (by simp[d1]) (λg=>absurd g f0) (λ_ w h=>?_) (.inr c8);exact e5 w p _ ⟨rfl,rfl⟩ h.re
 ·obtain⟨rfl,rfl⟩:=f1;rw[b7] at U;unfold aj.k2;have h:Sat σ w (Ln.zero.at b1::p2.at b::(V++(H++(y++(aM (gs++ [top])++L))))):=h
  refine dC (l:=Ln.zero) h (.head _) ⟨by decide,by decide,by decide,by decide⟩ λw h=>⟨_,rfl,?_⟩
  refine ag rfl (aa ⟨_,Sat.ld h (.tail _ (.head _)) (i:=5) rfl,?_⟩);have e7:i64.wrap (p2.depth+1)=((gs.length+1:Nat):Int):=by rw[hd,i64_in _ (by omega)];omega
  rw[e7];have b8:DocC σ b (Ln.zero.at b1::L) (gs++ [top]) (CW s p2.lineno F info ls) p2 w:=⟨V,y,_,H,U,c5,d3,⟨E,rfl,b3,c9⟩,h.re⟩
  refine aG.sound ?_;have W:=U.2.1;simp only[lA0,lS0,lF0,lM1] at W;refine aa ?_;have h:Sat σ w (p2.at b::(Ln.zero.at b1::(V++(H++(y++(aM (gs++ [top])++L)))))):=h.re
  refine⟨_,_,_,h.ldA,?_⟩;rw[W];refine ae (by simp;omega) ?_;intro Y a6;refine a6 _ _ _ (aa ?_);refine⟨_,_,_,h.ldA,?_⟩;rw[W];refine ag (by simp;omega) ?_;refine Cr b8 e9 λw I nb q c O x e3 e2 f2 e1 h=>⟨_,rfl,?_⟩
  have h:=h.drop;have g:=h;obtain⟨g5,g2,f3,g1,g3,f4,f6,⟨rfl,rfl⟩,h⟩:=h;refine a6 _ _ _ (aa ?_);refine⟨_,_,_,h.ldA,?_⟩;refine ae (by simp) ⟨rfl,?_⟩;exact e6 w {p2 with stn:=gs.length+1} I nb q c O rfl rfl e3 e2 f2 e1 g
theorem EV {nb s e:Nat}{F info:List UInt8}{q:OA}{c:Nat}{ls:List (List UInt8)}{g:List ai}(H:Sl 1 aq q ls.length c (sv ls) g)(O:ls.length<1048576)(hb:(dK ls).length<1073741824)(y:ls.head? ≠some [])(E:F.length<1073741824)(hi:info.length<1073741824)(hs:s<1000000000)(U:e<2000000000):
 TD G op (mm nb s e F info q ls.length c g) (.mk {kind:=7,text:=dK ls,title:=info,mark:=F,s:=s,e:=e} []):=by
 have ht:(mm nb s e F info q ls.length c g).tree G (.mk {kind:=7,text:=dK ls,title:=info,mark:=F,s:=s,e:=e} []):=by
  intro ts ht;refine⟨_,Aa (nb:=nb) (s:=s) (e:=e) H O hb y E hi,λa=>?_⟩;cases ht
  simp[mm,fI]
 refine⟨ht,?_,.inr ⟨_,_,rfl,by decide⟩,⟨jQ pa rfl (.head _),?_,hs,U⟩,λx I=>by simp[mm] at I⟩
 ·rw[d6 (d:=mm nb s e F info q ls.length c g) rfl (by decide)];exact ht
 ·show ((s:Int).toNat,(e:Int).toNat)=(s,e)
  simp

def OkL (ec:ai)(op:Opt)(Q:List DB->Prop):List (List UInt8)->Nat->List Bk->Leaf->Prop
 | [],_,fs,lf=>pN op fs lf Q
 |l::rem,n,fs,lf=> ∀nl,pJ [ec] op (n+1) l nl fs lf (OkL ec op Q rem (n+1))
theorem xE {gs0 fs:List Bk}{top0:Bk}(h:Sims (gs0++ [top0]) fs): ∃gs top,fs=gs++ [top]/\Sims gs0 gs/\top0.sim top:=by
 obtain⟨a,c,rfl,E,y⟩:=ux h;cases y with
 |cons k g=>cases g;exact⟨a,_,rfl,E,k⟩
theorem zW {ec:ai}{n:Nat}{nl:UInt8}{cx:List CX}{s:List UInt8}{root top:Bk}{cf gs junk:List Bk}{lf:Leaf}{J:List Bk->Leaf->Prop}(b5:FrS cx cf)(c4:root.isRoot)(U:root::cf=gs++ [top])(d2: ∀a c a6,cx=a++c::a6->(ctx (c::a6) s).all cL=false)(f4:cx.length<1000)(c5:(ctx cx s).length<100000)(d3: ∀(σ:Out) (R:Ending->World->Prop) (L:List ai) (b b1 pb:Nat) (p:PS) (w:World) (X:OA->Nat->WP) (y:List Bk) (E V:Bk) (g:List Bk) (l2:Ln),(∀b8 c2 w,aj.bl1 R X b8 c2 w->X b8 c2 w)->ec∈L->op.at pb∈L->p.pz=kE pb->p.lineno=n+1->n+1<1000000000->
  Sims gs y->top.sim E->FrX (n+1) cx g->V.isRoot->V::g=y++ [E]->LnR l2 s->l2.text.length<100000->p.depth=y.length->y.length=gs.length->DocC σ b (l2.at b1::L) (y++E::junk) lf p w->
  (∀w (p':PS) I O,p'.base=p.base->p'.lineno=p.lineno->J I O->DocC σ b L I O p' w->R (hQ (.tuple #[])) w)->X (kE b) b1 w):
 pJ [ec] op (n+1) (ctx cx s) nl (gs++top::junk) lf J:=by
 intro σ R L b pb p w e7 e5 d1 b4 f0 h e9;have e6:ec∈L:=e7 ec (.head _);have a7:LnR (Bx (ctx cx s) nl) (ctx cx s):=⟨Bw (by omega),rfl,rfl⟩;have W:(Bx (ctx cx s) nl).text.length<100000:=c5;generalize Bx (ctx cx s) nl=l at a7 W⊢;have f3:=b5.len;have e3:gs++top::junk= [root]++(cf++junk):=by
  have:gs++top::junk=(gs++ [top])++junk:=by simp
  rw[this,<-U];simp
 rw[e3] at h;obtain⟨M,b9,d0,c3,hs,ht,b3,f2,h⟩:=h;refine aj.sound ?_;refine Sat.bx h λb1 w h=>?_
 repeat (first|refine aa ?_|refine h.tk λw h=>?_|refine⟨_,h.ldA,?_⟩|refine⟨_,_,_,h.ldA,?_⟩|refine h.stA 0 λw h=>?_|refine h.stA 1 λw h=>?_|refine h.stA 2 λw h=>?_|refine h.stA 3 λw h=>?_|refine h.stA 4 λw h=>?_|refine h.stA 5 λw h=>?_|refine h.stA 6 λw h=>?_|refine h.bx λb0 w h=>?_)
 let H:PS:= {p with depth:=0}
 have h:Sat σ _ (l.at b1::H.at b::(M++(b9++(aM ([root]++(cf++junk))++(c3++L))))):=h
 have hd:DocC σ b (l.at b1::L) ([root]++(cf++junk)) lf H _:=⟨M,b9,d0,c3,hs.of rfl rfl rfl,ht.of rfl rfl rfl,b3,f2,h.re⟩
 intro X b6;refine FY b6 cx [root] cf H l _ b5 hd rfl ⟨by simp,by simp;omega⟩ a7 d2 (by show p.lineno<_;omega) λw g l2 k1 k2 k3 k4 h=>?_
 have c8:Sims (gs++ [top]) (root::g):=by
  rw[<-U];exact .cons (Bk.sim.rfl' (b3 root (by simp)).2.2.2) k1
 obtain⟨y,E,b7,c1,e8⟩:=xE c8;have e4:=c1.len;have f5:gs.length=cf.length:=by have:=congrArg List.length U;simp at this;omega
 have f1: [root]++(g++junk)=y++E::junk:=by
  have: [root]++(g++junk)=(root::g)++junk:=by simp
  rw[this,b7];simp
 rw[f1] at h;have c9:l2.text.length<100000:=by rw[k4];exact W
 have e0:FrX (n+1) cx g:=by have:=k2;rw[show H.lineno=n+1 from b4] at this;exact this
 refine d3 σ R L b b1 pb {H with depth:=(([root].length+cf.length:Nat):Int) - 1} w X y E root g l2 b6 e6 e5 d1 b4 f0 c1 e8 e0 c4 b7 k3 c9 (by show (([root].length+cf.length:Nat):Int) - 1=_;simp;omega) e4 h λw p' I O a1 a2 a3 h=>?_
 exact e9 w p' I O a1 a2 a3 h

def Bk.lk (f g:Bk):Prop:=f.ob.bd=g.ob.bd/\f.ob.s=g.ob.s/\f.own=g.own
theorem Bk.sim.lk {f g:Bk}(h:f.sim g):g.lk f:=by
 obtain⟨⟨m,y⟩,E,_⟩:=h;exact⟨by rw[y];rfl,by rw[y];rfl,E⟩
theorem Bk.like.lk {f g:Bk}(h:g.like f):g.lk f:=⟨h.1,h.2.1,h.2.2.2⟩
theorem Bk.lk.trans {f H k:Bk}(E:f.lk H)(y:H.lk k):f.lk k:=⟨E.1.trans y.1,E.2.1.trans y.2.1,E.2.2.trans y.2.2⟩
theorem Bk.like.root {f g:Bk}(h:g.like f)(hr:f.isRoot):g.isRoot:=by
 obtain⟨E,y,r2⟩:=hr;exact⟨E,h.1.trans y,h.2.2.2.trans r2⟩
theorem FrS.relast {cs:List CX}{fs:List Bk}(h:FrS cs fs): ∀(a:List Bk) (t t':Bk),fs=a++ [t]->t'.like t->FrS cs (a++ [t']):=by
 induction h with
 |nil=>intro a t t' e;simp at e
 | @q cs fs f hq h2 ih=>
  intro a t t' e E;cases a with
  |nil=>
   simp only[lT0,lU0] at e;obtain⟨rfl,rfl⟩:=e;cases h2
   exact .q (E.quote hq) .nil
  |cons x a=>
   simp only[lQ0,lU0] at e;obtain⟨rfl,e⟩:=e;exact .q hq (ih a t t' e E)
 | @i cs fs f g lb w bul num it hf hg hw h2 ih=>
  intro a t t' e E;cases a with
  |nil=>simp at e
  |cons x a=>
   simp only[lQ0,lU0] at e;obtain⟨rfl,e⟩:=e;cases a with
   |nil=>
    simp only[lT0,lU0] at e;obtain⟨rfl,rfl⟩:=e;cases h2
    exact .i hf (E.itemOf hg) hw .nil
   |cons H a=>
    simp only[lQ0,lU0] at e;obtain⟨rfl,e⟩:=e;exact .i hf hg hw (ih a t t' e E)
theorem Dh {cx:List CX}{root top g:Bk}{cf gs:List Bk}(I:FrS cx cf)(hr:root.isRoot)(y:root::cf=gs++ [top])(O:g.like top): ∃E H,E::H=gs++ [g]/\E.isRoot/\FrS cx H:=by
 cases gs with
 |nil=>
  simp only[lT0,lU0] at y;obtain⟨rfl,rfl⟩:=y;exact⟨g,[],rfl,O.root hr,by cases I;exact .nil⟩
 |cons x gs=>
  simp only[lQ0,lU0] at y;obtain⟨rfl,e⟩:=y;exact⟨root,gs++ [g],rfl,hr,I.relast gs top g e O⟩
theorem ctxQ: ∀(cs:List CX),cs.getLast? =some .q->(ctx cs []).all cL=false
 | [],h=>by simp at h
 | .q::cs,h=>rfl
 | .i w::cs,h=>by
  cases cs with
  |nil=>simp at h
  |cons c cs=>
   have g:=ctxQ (c::cs) (by rw[lV2] at h;exact h)
   have y:ctx (c::cs) []≠ []:=by intro E;rw[E] at g;cases g
   show (if ctx (c::cs) []= [] then [] else hN w 32++ctx (c::cs) []).all cL=false
   rw[if_neg y,vk];exact g
theorem zp: ∀ {cs:List CX},(∀c∈cs,c≠ .q)->ctx cs []= []
 | [],_=>rfl
 | .q::cs,h=>absurd rfl (h .q (.head _))
 | .i w::cs,h=>by
  show (if ctx cs []= [] then [] else hN w 32++ctx cs [])= []
  rw[if_pos (zp λc hc=>h c (.tail _ hc))]
theorem zo: ∀cx:List CX,∃g y,cx=g++y/\(∀c∈y,c≠ .q)/\(g= []\/g.getLast? =some .q)
 | []=>⟨[],[],rfl,(λc hc=>by cases hc),.inl rfl⟩
 |c::cx=>by
  obtain⟨g,y,rfl,H,E⟩:=zo cx;rcases E with rfl|E
  ·cases c with
   |q=>exact⟨[.q],y,rfl,H,.inr rfl⟩
   |i w=>
    refine⟨[],.i w::y,rfl,λc hc=>?_,.inl rfl⟩;rcases lX0.1 hc with rfl|hc
    ·intro h;cases h
    ·exact H c hc
  ·refine⟨c::g,y,rfl,H,.inr ?_⟩;cases g with
   |nil=>simp at E
   |cons d g=>rw[lV2];exact E
theorem nbQ {y:List CX}(h:y= []\/y.getLast? =some .q): ∀a c g,y=a++c::g->(ctx (c::g) []).all cL=false:=by
 intro a c g e;rcases h with rfl|h
 ·simp at e
 ·refine ctxQ _ ?_;rw[e,lD4] at h;cases E:(c::g).getLast? with
  |none=>simp at E
  |some x=>rw[E] at h;exact h
theorem EA (g0:op.task=false){ec:ai}{n:Nat}{nl:UInt8}{cx:List CX}{root top:Bk}{cf gs junk:List Bk}{lf:Leaf}{pend:List IN}{J:List Bk->Leaf->Prop}(m8:FrS cx cf)(g1:root.isRoot)(c4:root::cf=gs++ [top])(i0:cx.length<1000)(g4:(ctx cx []).length<100000)(l5:Pd G op pend junk lf)(o4:junk.length<100000)(e6: ∀E∈gs++top::junk,E.D.length<=90000)(j1:(txF (gs++top::junk)).length<=90000)(m3: ∀H I U c9 b9 b7 b8 c3,Sims gs H->I.lk top->FrS cx c3->b8.isRoot->b8::c3=H++ [I]->I.D=top.D++c9->TDs G op c9 b9->Pd G op b7 U .none->b9++b7=pend->(U.length<=junk.length/\ ∀N,(∀E∈junk,E.D.length<=N)-> ∀E∈U,E.D.length<=N+1)->(txF (H++I::U)).length<=(txF (gs++top::junk)).length+1->
  (U= []\/ ∃f rest lb num it,∃bul:UInt8,U=f::rest/\f.isList lb bul.toNat num it/\ ∃x,pend= [x]/\x.h.char= [bul])->(∀wd,cx.getLast? =some (.i wd)->I.ob.e=top.ob.e)->J (H++I::U) .none):
 pJ [ec] op (n+1) (ctx cx []) nl (gs++top::junk) lf J:=by
 intro σ R L b pb p w o2 h9 h3 o0 p3 h n0;obtain⟨b3,b4,rfl,e9,f3⟩:=zo cx;have h2:ctx (b3++b4) []=ctx b3 []:=by rw[nQ,zp e9]
 rw[h2] at g4⊢;obtain⟨W,y,rfl,e8,d2⟩:=m8.split;have f2:LnR (Bx (ctx b3 []) nl) (ctx b3 []):=⟨Bw (by omega),rfl,rfl⟩;generalize Bx (ctx b3 []) nl=l at f2⊢;rw[lA0] at i0;have n2:=e8.len;have g2:=d2.len;have h4:gs++top::junk= [root]++(W++(y++junk)):=by
  have:gs++top::junk=(gs++ [top])++junk:=by simp
  rw[this,<-c4];simp
 have p4:=h;rw[h4] at h;obtain⟨M,f4,g7,f6,hs,ht,c5,j0,h⟩:=h;refine aj.sound ?_;refine Sat.bx h λb1 w h=>?_
 repeat (first|refine aa ?_|refine h.tk λw h=>?_|refine⟨_,h.ldA,?_⟩|refine⟨_,_,_,h.ldA,?_⟩|refine h.stA 0 λw h=>?_|refine h.stA 1 λw h=>?_|refine h.stA 2 λw h=>?_|refine h.stA 3 λw h=>?_|refine h.stA 4 λw h=>?_|refine h.stA 5 λw h=>?_|refine h.stA 6 λw h=>?_|refine h.bx λb0 w h=>?_)
 let b5:PS:= {p with depth:=0}
 have h:Sat σ _ (l.at b1::b5.at b::(M++(f4++(aM ([root]++(W++(y++junk)))++(f6++L))))):=h
 have hd:DocC σ b (l.at b1::L) ([root]++(W++(y++junk))) lf b5 _:=⟨M,f4,g7,f6,hs.of rfl rfl rfl,ht.of rfl rfl rfl,c5,j0,h.re⟩
 intro X e3;refine FY e3 b3 [root] W b5 l _ e8 hd rfl ⟨by simp,by simp;omega⟩ f2 (nbQ f3) (by show p.lineno<_;omega) λw V l2 k1 k2 k3 k4 h=>?_
 have n3:=k1.len;have h:DocC σ b (l2.at b1::L) (([root]++V)++(y++junk)) lf {b5 with depth:=(([root].length+W.length:Nat):Int) - 1} w:=by simpa using h
 refine walkB e3 b4 ([root]++V) y _ l2 w d2 e9 h (by simp;omega) ⟨by simp,by simp;omega⟩ k3 λw l3 k5 h=>?_
 have g6:Sims (gs++ [top]) (root::(V++y)):=by
  rw[<-c4];exact .cons (Bk.sim.rfl' (c5 root (by simp)).2.2.2) (Sims.append k1 (Sims.refl λf e7=>(c5 f (by simp[e7])).2.2.2))
 obtain⟨H,I,e4,c8,d0⟩:=xE g6;have g3: ∀wd,(b3++b4).getLast? =some (.i wd)->I=top:=by
  intro wd b6;have h7:b4≠ []:=by
   rintro rfl
   rw[lG0] at b6;rcases f3 with rfl|h
   ·simp at b6
   ·rw[h] at b6;cases b6
  have g5:y≠ []:=by
   rintro rfl
   have m2:=g2.1;rw[lM1] at m2;have:=lY0.2 h7;omega
  cases hz:y.getLast? with
  |none=>exact absurd (List.getLast?_eq_none_iff.1 hz) g5
  |some z=>
   have a1:(root::(W++y)).getLast? =some z:=by rw[<-lQ0,lD4,hz];rfl
   have a2:(root::(V++y)).getLast? =some z:=by rw[<-lQ0,lD4,hz];rfl
   rw[c4] at a1;rw[e4] at a2;rw[lD4] at a1 a2;simp at a1 a2;rw[a1,a2]
 have o3:=c8.len;have f0:gs.length=(W++y).length:=by have:=congrArg List.length c4;simp at this⊢;omega
 have m5:([root]++V)++(y++junk)=H++I::junk:=by
  have:([root]++V)++(y++junk)=(root::(V++y))++junk:=by simp
  rw[this,e4];simp
 rw[m5] at h;have f1:=(Sims.append (c8:Sims gs H) (.cons d0 (Sims.refl (fs:=junk) λf e7=>by
  have:f∈ [root]++(W++(y++junk)):=by simp[e7]
  exact(c5 f this).2.2.2))).mem
 have i2:FrS (b3++b4) (V++y):=k2.toS.append d2;have h8: ∀E∈H++I::junk,E.D.length<=90000:=by
  have i1: ∀ {e5 d3:List Bk},Sims e5 d3->(∀E∈e5,E.D.length<=90000)-> ∀E∈d3,E.D.length<=90000:=by
   intro e5 d3 h6
   induction h6 with
   |nil=>intro _ E O;cases O
   |cons k _ m4=>
    intro f5 E O;rcases lX0.1 O with rfl|O
    ·rw[k.2.2.1];exact f5 _ (.head _)
    ·exact m4 (λx e0=>f5 x (.tail _ e0)) E O
  intro E O;rcases lO0.1 O with O|O
  ·exact i1 c8 (λx e0=>e6 x (by simp[e0])) E O
  ·rcases lX0.1 O with rfl|O
   ·rw[d0.2.2.1];exact e6 top (by simp)
   ·exact e6 E (by simp[O])
 have h5:(txF (H++I::junk)).length<=90000:=by rw[f1.2];exact j1
 refine Do g0 e3 h9 l5 H I {b5 with depth:=((([root]++V).length+y.length:Nat):Int) - 1} l3 w h3 (by simp at f0;omega) h8 h5 h (by simp at f0⊢;omega) k5 λw p' d1 c9 U b9 b7 a1 a2 a3 a4 a5 n1 i3 a8 a9 a10 h=>?_
 obtain⟨b8,c3,m6,r2,m1⟩:=Dh i2 g1 e4 a3;refine n0 w p' _ _ a1 a2 (m3 H d1 U c9 b9 b7 b8 c3 c8 (a3.lk.trans d0.lk) m1 r2 m6 (by rw[a4,d0.2.2.1]) a5 n1 i3 a8 ?_ a10 λwd k0=>by rw[a3.2.2.1,g3 wd k0]) h;have t1:txF (H++d1::U)=txF H++txF (d1::U):=bE _ _
 have i8:txF (H++I::junk)=txF H++txF (I::junk):=bE _ _
 rw[<-f1.2,t1,i8];simp only[lA0];omega

theorem FrX.relast {m:Nat}{cs:List CX}{fs:List Bk}(h:FrX m cs fs): ∀(a:List Bk) (t t':Bk),fs=a++ [t]->t'.like t->FrX m cs (a++ [t']):=by
 induction h with
 |nil=>intro a t t' e;simp at e
 | @q cs fs f hq he h2 ih=>
  intro a t t' e E;cases a with
  |nil=>
   simp only[lT0,lU0] at e;obtain⟨rfl,rfl⟩:=e;cases h2
   exact .q (E.quote hq) (E.2.2.1.trans he) .nil
  |cons x a=>
   simp only[lQ0,lU0] at e;obtain⟨rfl,e⟩:=e;exact .q hq he (ih a t t' e E)
 | @i cs fs f g lb w bul num it hf hg hw he h2 ih=>
  intro a t t' e E;cases a with
  |nil=>simp at e
  |cons x a=>
   simp only[lQ0,lU0] at e;obtain⟨rfl,e⟩:=e;cases a with
   |nil=>
    simp only[lT0,lU0] at e;obtain⟨rfl,rfl⟩:=e;cases h2
    exact .i hf (E.itemOf hg) hw (E.2.2.1.trans he) .nil
   |cons H a=>
    simp only[lQ0,lU0] at e;obtain⟨rfl,e⟩:=e;exact .i hf hg hw he (ih a t t' e E)
theorem jz {m:Nat}{cx:List CX}{root top g:Bk}{cf gs:List Bk}(I:FrX m cx cf)(hr:root.isRoot)(y:root::cf=gs++ [top])(O:g.like top): ∃E H,E::H=gs++ [g]/\E.isRoot/\FrX m cx H:=by
 cases gs with
 |nil=>
  simp only[lT0,lU0] at y;obtain⟨rfl,rfl⟩:=y;exact⟨g,[],rfl,O.root hr,by cases I;exact .nil⟩
 |cons x gs=>
  simp only[lQ0,lU0] at y;obtain⟨rfl,e⟩:=y;exact⟨root,gs++ [g],rfl,hr,I.relast gs top g e O⟩
theorem rI {cx:List CX}{root top:Bk}{cf gs:List Bk}(O:FrS cx cf)(hr:root.isRoot)(E:root::cf=gs++ [top]):top.box_:=by
 have H: ∀ {cs:List CX} {fs:List Bk},FrS cs fs-> ∀a t,fs=a++ [t]->t.box_:=by
  intro cs fs h
  induction h with
  |nil=>intro a t e;simp at e
  | @q cs fs f hq h2 ih=>
   intro a t e;cases a with
   |nil=>simp only[lT0,lU0] at e;obtain⟨rfl,_⟩:=e;exact hq.box_
   |cons x a=>simp only[lQ0,lU0] at e;exact ih a t e.2
  | @i cs fs f g lb w bul num it hf hg hw h2 ih=>
   intro a t e;cases a with
   |nil=>simp at e
   |cons x a=>
    simp only[lQ0,lU0] at e;obtain⟨_,e⟩:=e;cases a with
    |nil=>simp only[lT0,lU0] at e;obtain⟨rfl,_⟩:=e;exact hg.box_
    |cons V a=>simp only[lQ0,lU0] at e;exact ih a t e.2
 cases gs with
 |nil=>
  simp only[lT0,lU0] at E;obtain⟨rfl,_⟩:=E;obtain⟨U,I,_⟩:=hr;exact⟨_,_,I,by decide,by decide⟩
 |cons x gs=>
  simp only[lQ0,lU0] at E;exact H O gs top E.2
def BD (n:Nat)(fs:List Bk):Prop:=(∀f∈fs,f.D.length<=3*n)/\(txF fs).length<=3*n
def BDi (n:Nat)(gs:List Bk)(top:Bk)(junk:List Bk):Prop:=(∀f∈gs,f.D.length<=3*n+1)/\(∀f∈top::junk,f.D.length<=3*n)/\((txF (gs++top::junk)).length<=3*n\/junk= []/\(txF (gs++top::junk)).length<=3*n+1)
theorem BDi.all {n:Nat}{gs junk:List Bk}{top:Bk}(h:BDi n gs top junk):(∀f∈gs++top::junk,f.D.length<=3*n+1)/\(txF (gs++top::junk)).length<=3*n+1:=by
 refine⟨λf g=>?_,by rcases h.2.2 with h|h<;>omega⟩;rcases lO0.1 g with g|g
 ·exact h.1 f g
 ·have:=h.2.1 f g;omega
theorem BDi.le {n:Nat}{gs junk:List Bk}{top:Bk}(h:BDi n gs top junk)(y:n<=20000):(∀f∈gs++top::junk,f.D.length<=90000)/\(txF (gs++top::junk)).length<=90000:=⟨λf g=>by have:=h.all.1 f g;omega,by have:=h.all.2;omega⟩
theorem BD.i {n:Nat}{gs junk:List Bk}{top:Bk}(h:BD n (gs++top::junk)):BDi n gs top junk:=⟨λf g=>by have:=h.1 f (by simp[g]);omega,λf g=>h.1 f (lB0 _ g),.inl h.2⟩
def St (G:List UInt8->List Inl)(op:Opt)(cx:List CX)(d n:Nat)(gs0:List Bk)(top0:Bk)(xs:List IN)(fs:List Bk)(lf:Leaf):Prop:=
 ∃root cf gs top junk y g pend,fs=gs++top::junk/\root.isRoot/\root::cf=gs++ [top]/\FrX n cx cf/\Sims gs0 gs/\top.lk top0/\top.D=top0.D++y/\TDs G op y g/\Pd G op pend junk lf/\g++pend=xs/\junk.length<=2*d/\BD n fs
def CM (c:UInt8)(junk:List Bk):Prop:=junk= []\/ ∃g y H c0 num0 E,junk=g::y/\g.isList H (UInt8.toNat c0) num0 E/\c0≠c
def BlkP (G:List UInt8->List Inl)(op:Opt)(ec:ai)(ls:List (List UInt8))(x:Nat->IN)(d:Nat)(bc:Option UInt8):Prop:=
 ∀(cx:List CX) (root top:Bk) (cf gs junk:List Bk) (pend0:List IN) (rem:List (List UInt8)) (n:Nat) (Q:List DB->Prop),cx.length+d<=400->n+ls.length<=20000->(∀s∈ls,(ctx cx s).length<100000)->root.isRoot->root::cf=gs++ [top]->FrX (n+1) cx cf->Pd G op pend0 junk .none->junk.length<=900->(∀c,bc=some c->CM c junk)->BDi n gs top junk->
  (∀fs lf,St G op cx d (n+ls.length) gs top (pend0++ [x (n+1)]) fs lf->OkL ec op Q rem (n+ls.length) fs lf)->
  ∀(σ:Out) (R:Ending->World->Prop) (L:List ai) (b b1 pb:Nat) (p:PS) (w:World) (l:Ln) (E:OA->Nat->WP),Runs R E b b1->ec∈L->op.at pb∈L->p.pz=kE pb->p.lineno=n+1->p.depth=gs.length->LnR l (ls.headD [])->l.text.length<100000->DocC σ b (l.at b1::L) (gs++top::junk) .none p w->
   (∀w (p':PS) y g,p'.base=p.base->p'.lineno=p.lineno->OkL ec op Q (ls.tail.map (ctx cx)++rem) (n+1) y g->DocC σ b L y g p' w->R (hQ (.tuple #[])) w)->aj.bl102 R E (kE b) b1 w
theorem BD.le {n:Nat}{fs:List Bk}(h:BD n fs)(y:n<=20000):(∀f∈fs,f.D.length<=90000)/\(txF fs).length<=90000:=⟨λf g=>by have:=h.1 f g;omega,by have:=h.2;omega⟩
theorem St.done {cx:List CX}{d n b:Nat}{root top y:Bk}{cf gs junk:List Bk}{pend0:List IN}{x:IN}{E:List DB}{H:DB}{p:PS}(b7:FrX (n+1) cx cf)(hr:root.isRoot)(b3:root::cf=gs++ [top])(V:y.like top)(O:y.D=top.D++(E++ [H]))(U:TDs G op E pend0)(c3:pend0.length<=1)(b8:TD G op H x)(c2:(cj E).length<=(txF junk).length+1)(c4:H.txs.length<=1)(I:BDi n gs top junk)(h:DocC σ b L (gs++ [y]) .none p w):St G op cx d (n+1) gs top (pend0++ [x]) (gs++ [y]) .none:=by
 obtain⟨_,_,_,_,_,_,b4,_⟩:=h;obtain⟨a6,a7,b6,r2,b5⟩:=jz b7 hr b3 V;have c5:=U.len;refine⟨a6,a7,gs,y,[],E++ [H],pend0++ [x],[],rfl,r2,b6,b5,Sims.refl λf g=>(b4 f (by simp[g])).2.2.2,V.lk,O,U.append (.cons b8 .nil),.none,by simp,by simp,λf g=>?_,?_⟩
 ·rcases lO0.1 g with g|g
  ·have:=I.all.1 f (by simp[g]);omega
  ·obtain rfl:=lR0.1 g;have:=I.all.1 top (by simp);rw[O];simp;omega
 ·have W:=I.all.2;have b9:txF (gs++top::junk)=txF gs++(cj top.D++txF junk):=by simp[txF]
  have c1:txF (gs++ [y])=txF gs++(cj top.D++(cj E++H.txs)):=by rw[bE,dH,O,de,de];simp[cj]
  rw[b9] at W;rw[c1];simp only[lA0] at W⊢;omega
theorem LnR.noSkip {l:Ln}{s:List UInt8}(h:LnR l s)(hs:s.head?.map cL≠some true):l.skip=l:=by
 have H:=h.ok.i;have g:=congrArg List.length h.tx;rw[lL1] at g;have y:s.dropWhile cL=s:=by
  cases s with
  |nil=>rfl
  |cons c s=>
   rw[lH2];intro E;exact hs (by simp[E])
 unfold Ln.skip;rw[h.tx,y,<-g,<-h.sp];have:l.text.length - (l.text.length - l.i)=l.i:=by omega
 rw[this]
theorem LnR.hr3 {l:Ln}(h:LnR l [42,42,42]):l.isHR=true:=by
 have O: ∀e,l.lead 3 e=l:=h.has.lead (by decide) 2
 have I:=congrArg List.length h.tx;rw[lL1] at I;simp only[lF0,lM1] at I;obtain⟨m,b3⟩: ∃m,l.text.length+1=m+4:=⟨l.text.length - 3,by omega⟩
 unfold Ln.isHR;simp only[O,h.has.peek];rw[if_pos (by decide),b3];have y:LnR {l with i:=l.i+1} [42,42]:=LnR.skip (a:= [42]) h
 have E:LnR {l with i:=l.i+1+1} [42]:=LnR.skip (a:= [42]) y
 have g:LnR {l with i:=l.i+1+1+1} []:=LnR.skip (a:= [42]) E
 have a7:l.trimC 42=some {l with i:=l.i+1}:=by rw[h.has.trimC,if_pos rfl]
 have b4:({l with i:=l.i+1}:Ln).trimC 42=some {l with i:=l.i+1+1}:=by rw[y.has.trimC,if_pos rfl]
 have W:({l with i:=l.i+1+1}:Ln).trimC 42=some {l with i:=l.i+1+1+1}:=by rw[E.has.trimC,if_pos rfl]
 have V:({l with i:=l.i+1+1+1}:Ln).trimC 42=none:=by
  have H:=g.lenNil;have a6:l.text[l.i+1+1+1]? =none:=lS1 H;unfold Ln.trimC;rw[if_neg (by show ¬ 0<l.sp;rw[h.sp];omega),if_neg (by show ¬ l.text[l.i+1+1+1]? =some 42;rw[a6];simp)]
 have b5:=y.noSkip (by decide);have U:=E.noSkip (by decide);have b6:=g.noSkip (by decide);simp only[Ln.hrGo,a7,b5,b4,U,W,b6,V];have H:=g.lenNil;simp only[lK1,decide_eq_true_eq];exact⟨by omega,H⟩
theorem GA (V:op.task=false){ec:ai}{d:Nat}:BlkP G op ec [[42,42,42]] (λn=> .mk {kind:=9,mark:= [42,42,42],s:=n,e:=n} []) d none:=by
 intro cx root top cf gs junk pend0 rem n Q d2 e3 c4 hr y E U e1 c9 H b5 σ R L b b1 pb p w l e4 d0 d3 b6 a7 b8 hd g e0 h c1;have g:LnR l [42,42,42]:=g;have c8:=E.len;have d1:gs.length=cf.length:=by have:=congrArg List.length y;simp at this;omega
 have I:=g.has;have O: ∀e,l.lead 3 e=l:=I.lead (by decide) 2
 have c3:l.quote=none:=by unfold Ln.quote;rw[O,I.trimC,if_neg (by decide)];rfl
 have b4:l.heading=none:=by unfold Ln.heading;rw[O,I.trimC,if_neg (by decide)]
 have W:l.str= [42,42,42]:=by unfold Ln.str;rw[g.sp,g.tx];rfl
 have b7:l.isHR=true:=g.hr3;have a6:=rI E.toS hr y;refine Fa V U h hd (by omega) a6.np g.ok c3 b4 b7 (H.le (by omega)).1 (H.le (by omega)).2 a7 b6 (by omega) λw p' c5 e2 nb c2 b9 k1 k2 k3 k4 h=>?_
 rw[W,b8] at k2;have b3:=St.done (G:=G) (op:=op) (d:=d) E hr y k1 k2 k3 U.len (td_hr (by decide) (by omega)) k4 (by simp[B3]) H h
 exact c1 w p' _ _ c2 b9 (b5 _ _ b3) h

structure TxL (s:List UInt8):Prop where
 cont: ∀l,LnR l s->l.cont/\l.rest=s
 nb:s.all cL=false
theorem DX (U:op.task=false)(V:op.ids=false){ec:ai}{d lv:Nat}{m:List UInt8}{g:UInt8}(a6:1<=lv/\lv<=6)(b3:cL g=false/\g≠35)(b6:m.length<100000)(c2:js none [] op (m++ [g]) (G (m++ [g])))(c5:lP (G (m++ [g]))):
 BlkP G op ec [hN lv 35++32::(m++ [g])] (λn=> .mk {kind:=5,num:=(lv:Nat),s:=n,e:=n} (gO (G (m++ [g])))) d none:=by
 intro cx root top cf gs junk pend0 rem n Q e6 f2 c9 hr H I O e9 d3 E b4 σ R L b b1 pb p w l f3 e0 e7 b5 W b7 hd y e8 h c1;have y:LnR l (hN lv 35++32::(m++ [g])):=y
 have d2:=I.len;have e5:gs.length=cf.length:=by have:=congrArg List.length H;simp at this;omega
 obtain⟨b9,c3,c8,f1⟩:=y.heading a6;refine Be U V O h hd (by omega) y.ok c8 b9 c3 b3 b6 (E.le (by omega)).1 (E.le (by omega)).2 W b5 (by omega) λw p' d1 f0 nb t c4 b8 k1 k2 k3 k4 h=>?_
 rw[b7] at k2;have a7:=St.done (G:=G) (op:=op) (d:=d) I hr H k1 k2 k3 O.len (EU (by omega) (by omega) c5 c2) k4 (by simp[yg]) E h
 exact c1 w p' _ _ c4 b8 (b4 _ _ a7) h
theorem k2nb {b b1:Nat}{fs:List Bk}{lf:Leaf}{p:PS}{l:Ln}(h:DocC σ b (l.at b1::L) fs lf p w)(O:l.ok)(hb:l.blank=false)(I: ∀w,DocC σ b (l.at b1::L) fs lf p w->aj.bl102 R (aj.l102 R) (kE b) b1 w):
 aj.k2 R (kE b) b1 w:=by
 obtain⟨M,y,E,g,hs,ht,H,U,h⟩:=h;unfold aj.k2;have h:Sat σ w (l.at b1::p.at b::(M++(y++(aM fs++(g++L))))):=h.re
 refine dC h (.head _) O λw h=>⟨_,rfl,?_⟩
 rw[hb];exact ae rfl (I w ⟨M,y,E,g,hs,ht,H,U,h.re⟩)
theorem FrX.lastE {m:Nat}{cs:List CX}{fs:List Bk}(h:FrX m cs fs): ∀(a:List Bk) (t:Bk),fs=a++ [t]->t.ob.e=m:=by
 induction h with
 |nil=>intro a t e;simp at e
 | @q cs fs f hq he h2 ih=>
  intro a t e;cases a with
  |nil=>simp only[lT0,lU0] at e;obtain⟨rfl,_⟩:=e;exact he
  |cons x a=>simp only[lQ0,lU0] at e;exact ih a t e.2
 | @i cs fs f g lb w bul num it hf hg hw he h2 ih=>
  intro a t e;cases a with
  |nil=>simp at e
  |cons x a=>
   simp only[lQ0,lU0] at e;obtain⟨_,e⟩:=e;cases a with
   |nil=>simp only[lT0,lU0] at e;obtain⟨rfl,_⟩:=e;exact he
   |cons E a=>simp only[lQ0,lU0] at e;exact ih a t e.2
theorem Bk.setE_same {t:Bk}{m:Nat}(h:t.ob.e=m):t.setE m=t:=by
 cases t with
 |mk ob own D IM=>
  cases ob
  subst h;rfl
theorem Bk.isRoot.setE {f:Bk}{m:Nat}(h:f.isRoot):(f.setE m).isRoot:=h
theorem E6 {m:Nat}{cx:List CX}{root top:Bk}{cf gs:List Bk}(y:FrX m cx cf)(hr:root.isRoot)(g:root::cf=gs++ [top]): ∃E H,E::H=gs++ [top.setE m]/\E.isRoot/\FrX m cx H:=by
 cases gs with
 |nil=>
  simp only[lT0,lU0] at g;obtain⟨rfl,rfl⟩:=g;exact⟨root.setE m,[],rfl,hr.setE,y⟩
 |cons x gs=>
  have I:=g;simp only[lQ0,lU0] at g;obtain⟨rfl,e⟩:=g;rw[Bk.setE_same (y.lastE gs top e)];exact⟨root,cf,I,hr,y⟩
theorem En (c9:op.table=false){ec:ai}{Q:List DB->Prop}{rem:List (List UInt8)}{cx:List CX}{s0:Nat}(d3:cx.length<1000): ∀(rest E:List (List UInt8)) (n:Nat) (root top:Bk) (cf gs:List Bk),FrX n cx cf->root.isRoot->root::cf=gs++ [top]->(∀f∈gs++ [top],f.ob.e<1000000000)->(∀s∈rest,TxL s/\(ctx cx s).length<100000)->E.length+rest.length<100000->n+rest.length<1000000->
 (∀y g U I,Sims gs y->top.sim g->U.isRoot->U::I=y++ [g]->FrX (n+rest.length) cx I->(∀f∈y++ [g],f.ob.e<1000000000)->OkL ec op Q rem (n+rest.length) (y++ [g]) (oH s0 (E++rest)))->OkL ec op Q (rest.map (ctx cx)++rem) n (gs++ [top]) (oH s0 E):=by
 intro rest
 induction rest with
 |nil=>
  intro E n root top cf gs b7 hr b5 O W c2 c1 V;have:=V gs top root cf (Sims.refl λf b8=>O f (by simp[b8])) (Bk.sim.rfl' (O top (by simp))) hr b5 b7 O
  simpa using this
 |cons s rest g0=>
  intro E n root top cf gs b7 hr b5 O W c2 c1 V;simp only[lF0] at c2 c1;obtain⟨hs,e0⟩:=W s (.head _)
  show∀nl,pJ [ec] op (n+1) (ctx cx s) nl (gs++top:: []) (oH s0 E) (OkL ec op Q (rest.map (ctx cx)++rem) (n+1))
  intro nl;have e1: ∀a c b4,cx=a++c::b4->(ctx (c::b4) s).all cL=false:=by
   have e7: ∀cs:List CX,(ctx cs s).all cL=false:=by
    intro cs
    induction cs with
    |nil=>exact hs.nb
    |cons c cs b3=>
     cases c with
     |q=>rfl
     |i w=>
      have e5:ctx cs s≠ []:=by intro g3;rw[g3] at b3;cases b3
      show (if ctx cs s= [] then [] else hN w 32++ctx cs s).all cL=false
      rw[if_neg e5,vk];exact b3
   intro a c b4 _;exact e7 _
  refine zW b7.toS hr b5 e1 d3 e0 λσ R L b b1 pb p w X y g U I l2 f6 g7 e4 d1 f0 h2 g2 f4 b6 b9 a7 H h1 hd g5 h f5=>?_
  obtain⟨c3,c8⟩:=hs.cont l2 H;have e8:l2.blank=false:=by unfold Ln.blank;rw[H.tx];exact hs.nb
  have g4:=b6.len;have g6:y.length=I.length:=by have:=congrArg List.length a7;simp at this;omega
  refine E0 f6 h (by simp;omega) ⟨by simp,by simp;omega⟩ H.ok λw h=>?_
  refine k2nb h H.ok e8 λw h=>?_
  refine contS h hd (by omega) (rI b6.toS b9 a7) c3 (by omega) d1 e4 c9 (by omega) λw h=>?_
  rw[c8,f0] at h;obtain⟨c4,e3,f2,r2,f1⟩:=E6 b6 b9 a7;have e9: ∀f∈y++ [g.setE (n+1)],f.ob.e<1000000000:=by
   obtain⟨_,_,_,_,_,_,e6,_⟩:=h;exact λf b8=>(e6 f b8).2.2.2
  refine f5 w p _ _ rfl rfl (g0 (E++ [s]) (n+1) c4 (g.setE (n+1)) e3 y f1 r2 f2 e9 (λx f3=>W x (.tail _ f3)) (by simp;omega) (by omega) λe2 d0 c5 d2 a1 a2 a3 a4 a5 g1=>?_) h;have:=V e2 d0 c5 d2 (g2.trans a1) ((f4.trans (g.setE_sim (by omega))).trans a2) a3 a4 (by
   have e:n+(s::rest).length=n+1+rest.length:=by simp;omega
   rw[e];exact a5) g1
  have e:n+(s::rest).length=n+1+rest.length:=by simp;omega
  rw[e] at this;rw[lD0];exact this

theorem Bb {k:Nat}{O H:List Bk}(h:Sims O H):(∀y∈O,y.D.length<=k)-> ∀y∈H,y.D.length<=k:=by
 induction h with
 |nil=>intro _ y E;cases E
 |cons W _ U=>
  intro I y E;rcases lX0.1 E with rfl|E
  ·rw[W.2.2.1];exact I _ (.head _)
  ·exact U (λx V=>I x (.tail _ V)) y E
theorem St.fin {cx:List CX}{d n a6:Nat}{H top g:Bk}{I gs y junk:List Bk}{O pend:List IN}{ds2:List DB}{lf:Leaf}(U:BDi n gs top junk)(b5:g.lk top)(W:g.D=top.D++ds2)(b4:TDs G op ds2 O)(c2:ds2.length<=2)(c3:(cj ds2).length<=(txF junk).length+2)(V:Sims gs y)(hr3:H.isRoot)(b3:H::I=y++ [g])(b6:FrX a6 cx I)(c1:Pd G op pend [] lf)(c4:n+1<=a6):
 St G op cx d a6 gs top (O++pend) (y++ [g]) lf:=by
 refine⟨H,I,y,g,[],ds2,O,pend,rfl,hr3,b3,b6,V,b5,W,b4,c1,rfl,by simp,λf E=>?_,?_⟩
 ·rcases lO0.1 E with E|E
  ·have:=Bb (k:=3*n+1) V (λx b7=>U.all.1 x (by simp[b7])) f E;omega
  ·obtain rfl:=lR0.1 E;have:=U.all.1 top (by simp);rw[W];simp;omega
 ·have a7:=U.all.2;have b8:txF (gs++top::junk)=txF gs++(cj top.D++txF junk):=by simp[txF]
  have b9:txF (y++ [g])=txF gs++(cj top.D++cj ds2):=by rw[bE,dH,W,de,V.mem.2]
  rw[b8] at a7;rw[b9];simp only[lA0] at a7⊢;omega
theorem DV (b4:op.task=false)(b7:op.table=false){ec:ai}{d:Nat}{ls:List (List UInt8)}(c3:ls≠ [])(V: ∀s∈ls,TxL s)(c9:xd G op ls):
 BlkP G op ec ls (λn=> .mk {kind:=6,s:=n,e:=n+ls.length - 1} (gO (G (bv [10] ls)))) d none:=by
 intro cx root top cf gs junk pend0 rem n Q f3 e0 b6 hr g y W f5 e8 E c1 σ R L b b1 pb p w l g2 f0 f2 c2 b8 c8 hd H f4 h d3;obtain⟨s,rest,rfl⟩:=lA1 c3;have H:LnR l s:=H;obtain⟨a7,b5⟩:=(V s (.head _)).cont l H;have e6:=y.len;have f1:gs.length=cf.length:=by have:=congrArg List.length g;simp at this;omega
 simp only[lF0] at e0;refine vR b4 W h hd (by omega) (rI y.toS hr g) a7 (E.le (by omega)).1 (E.le (by omega)).2 b8 c2 (by omega) λw p' I g0 e1 d2 k1 k2 k3 k4 h=>?_
 rw[b5,c8] at h;obtain⟨b3,b9,d1,r2,d0⟩:=jz y hr g k1;have c5: ∀f∈gs++ [I],f.ob.e<1000000000:=by
  obtain⟨_,_,_,_,_,_,c4,_⟩:=h;exact λf e2=>(c4 f e2).2.2.2
 have f6:=k3.len;have e9:=W.len;refine d3 w p' _ _ e1 d2 (En b7 (by omega) rest [s] (n+1) b3 I b9 gs d0 r2 d1 c5 (λx U=>⟨V x (.tail _ U),b6 x (.tail _ U)⟩) (by simp;omega) (by omega) λe7 e4 e3 e5 a1 a2 a3 a4 a5 g1=>?_) h;have O:=St.fin (G:=G) (op:=op) (d:=d) (pend:= [.mk {kind:=6,s:=n+1,e:=n+1+(s::rest).length - 1} (gO (G (bv [10] (s::rest))))]) E (a2.lk.trans k1.lk) (by rw[a2.2.2.1,k2]) k3 (by omega) (by omega) a1 a3 a4 a5 (.para c9) (by omega)
 have e:n+1+rest.length=n+(s::rest).length:=by simp;omega
 rw[e] at O⊢;exact c1 _ _ O
theorem Bo {s:List UInt8}(hs:s.all cL=false): ∀cs:List CX,(ctx cs s).all cL=false:=by
 intro cs
 induction cs with
 |nil=>exact hs
 |cons c cs g=>
  cases c with
  |q=>rfl
  |i w=>
   have y:ctx cs s≠ []:=by intro E;rw[E] at g;cases g
   show (if ctx cs s= [] then [] else hN w 32++ctx cs s).all cL=false
   rw[if_neg y,vk];exact g
theorem Am (c1:op.task=false)(e6:op.table=false){ec:ai}{d:Nat}{c:UInt8}{ls:List (List UInt8)}(hc:c=61\/c=45)(g0:ls≠ [])(d3: ∀s∈ls,TxL s)(H:xd G op ls):
 BlkP G op ec (ls++ [[c,c,c]]) (λn=> .mk {kind:=5,num:=(Aw c:Nat),s:=n,e:=n+ls.length} (gO (G (bv [10] ls)))) d none:=by
 intro cx root top cf gs junk pend0 rem n Q m4 h1 c3 hr b5 b7 e1 m6 i3 U g σ R L b b1 pb p w l n1 m3 f3 b4 W a7 hd b8 g1 h O;obtain⟨s,rest,rfl⟩:=lA1 g0;have b8:LnR l s:=b8;obtain⟨e4,e5⟩:=(d3 s (.head _)).cont l b8;have k0:=b7.len;have m1:gs.length=cf.length:=by have:=congrArg List.length b5;simp at this;omega
 have en:n+((s::rest)++ [[c,c,c]]).length=n+1+rest.length+1:=by simp;omega
 have h2:n+1+(s::rest).length=n+1+rest.length+1:=by simp;omega
 have g: ∀fs lf,St G op cx d (n+((s::rest)++ [[c,c,c]]).length) gs top (pend0++ [.mk {kind:=5,num:=(Aw c:Nat),s:=n+1,e:=n+1+(s::rest).length} (gO (G (bv [10] (s::rest))))]) fs lf->OkL ec op Q rem (n+((s::rest)++ [[c,c,c]]).length) fs lf:=g
 rw[en,h2] at g;rw[en] at h1;refine vR c1 e1 h hd (by omega) (rI b7.toS hr b5) e4 (U.le (by omega)).1 (U.le (by omega)).2 W b4 (by omega) λw p' c4 g6 h5 g4 k1 k2 k3 k4 h=>?_
 rw[e5,a7] at h;obtain⟨e3,f2,h3,r2,g7⟩:=jz b7 hr b5 k1;have f6: ∀f∈gs++ [c4],f.ob.e<1000000000:=by
  obtain⟨_,_,_,_,_,_,g3,_⟩:=h;exact λf h6=>(g3 f h6).2.2.2
 have m8:=k3.len;have i8:=e1.len;have e9:cL c=false:=by rcases hc with rfl|rfl<;>decide
 have b9:([c,c,c]:List UInt8).all cL=false:=by simp[e9]
 have e8:((s::rest)++ [[c,c,c]]).tail.map (ctx cx)++rem=rest.map (ctx cx)++(ctx cx [c,c,c]::rem):=by simp
 rw[e8] at O;refine O w p' _ _ h5 g4 (En e6 (by omega) rest [s] (n+1) e3 c4 f2 gs g7 r2 h3 f6 (λx d1=>⟨d3 x (.tail _ d1),c3 x (by simp[d1])⟩) (by simp;omega) (by omega) λf1 e7 h8 m2 a1 a2 a3 a4 a5 o3=>?_) h
 show∀nl,pJ [ec] op (n+1+rest.length+1) (ctx cx [c,c,c]) nl (f1++e7:: []) (oH (n+1) ([s]++rest)) (OkL ec op Q rem (n+1+rest.length+1))
 intro nl;refine zW a5.toS a3 a4 (λa x i2 _=>Bo b9 _) (by omega) (c3 _ (by simp)) λσ R L b b1 pb p w X b3 c2 h9 f5 l2 h0 f3 b4 W a7 j0 d2 I b6 c9 V E g1 hd l5 h O=>?_
 have g2:l2.blank=false:=by unfold Ln.blank;rw[E.tx];exact b9
 have i0:=b6.len;have m5:b3.length=f5.length:=by have:=congrArg List.length V;simp at this;omega
 have c8:(∀f∈b3++ [c2],f.D.length<=90000)/\(txF (b3++ [c2])).length<=90000:=by
  have y:=St.fin (G:=G) (op:=op) (d:=d) (pend:= [.mk {kind:=6,s:=n+1,e:=n+1+(s::rest).length - 1} (gO (G (bv [10] (s::rest))))]) U (I.lk.trans (a2.lk.trans k1.lk)) (by rw[I.2.2.1,a2.2.2.1,k2]) k3 (by omega) (by omega) (a1.trans d2) c9 V b6 (.para H) (by omega)
  obtain⟨_,_,n3,o2,n2,_,_,_,o0,_,_,_,_,_,_,_,_,_,_,hb⟩:=y;exact hb.le (by omega)
 refine E0 h0 h (by simp;omega) ⟨by simp,by simp;omega⟩ E.ok λw h=>?_
 refine k2nb h E.ok g2 λw h=>?_
 refine E3 (n:=3) c1 h hd (by omega) hc (by decide) E H c8.1 c8.2 W b4 (by omega) λw p' i1 hb t f0 f4 d0 c5 j1 h=>?_
 obtain⟨h7,n0,t1,g5,h4⟩:=jz b6 c9 V d0;rw[a7] at c5;have y:=St.fin (G:=G) (op:=op) (d:=d) (pend:= []) (ds2:=g6++ [qN hb t (n+1) (n+1+rest.length+1) (n+1) (n+1+([s]++rest).length - 1) (Aw c) (bv [10] ([s]++rest))]) U (d0.lk.trans (I.lk.trans (a2.lk.trans k1.lk))) (by rw[c5,I.2.2.1,a2.2.2.1,k2,lD0]) (k3.append (.cons (A1 (by omega) (by omega) H.tame H.inl) .nil)) (by simp;omega) (by rw[de];simp[cj,qN];simp[cj] at k4;omega) (a1.trans d2) g5 t1 h4 .none (by omega)
 rw[lG0] at y;exact O w p' _ _ f0 f4 (g _ _ y) h

structure CoL (F s:List UInt8):Prop where
 go: ∀l,LnR l s->vp F l
 nb:s.all cL=false
theorem LnR.str {l:Ln}{s:List UInt8}(h:LnR l s):l.str=s:=by unfold Ln.str;rw[h.sp,h.tx];rfl
theorem fenGo {ec:ai}{Q:List DB->Prop}{rem:List (List UInt8)}{cx:List CX}{s0:Nat}{F info:List UInt8}(e3:As ec)(c2:cx.length<1000): ∀(rest E:List (List UInt8)) (n:Nat) (root top:Bk) (cf gs:List Bk),FrX n cx cf->root.isRoot->root::cf=gs++ [top]->(∀f∈gs++ [top],f.ob.e<1000000000)->(∀s∈rest,CoL F s/\(ctx cx s).length<100000)->E.length+rest.length<100000->n+rest.length<1000000->
 (∀g y I H,Sims gs g->top.sim y->I.isRoot->I::H=g++ [y]->FrX (n+rest.length) cx H->OkL ec op Q rem (n+rest.length) (g++ [y]) (CW s0 (n+rest.length) F info (E++rest)))->OkL ec op Q (rest.map (ctx cx)++rem) n (gs++ [top]) (CW s0 n F info E):=by
 intro rest
 induction rest with
 |nil=>
  intro E n root top cf gs a7 hr a6 W V b7 b6 U;have:=U gs top root cf (Sims.refl λf b3=>W f (by simp[b3])) (Bk.sim.rfl' (W top (by simp))) hr a6 a7
  simpa using this
 |cons s rest e7=>
  intro E n root top cf gs a7 hr a6 W V b7 b6 U;simp only[lF0] at b7 b6;obtain⟨hs,c3⟩:=V s (.head _)
  show∀nl,pJ [ec] op (n+1) (ctx cx s) nl (gs++top:: []) (CW s0 n F info E) (OkL ec op Q (rest.map (ctx cx)++rem) (n+1))
  intro nl;refine zW a7.toS hr a6 (λa x f2 _=>Bo hs.nb _) c2 c3 λσ R L b b1 pb p w X g y I H l2 e6 c8 f3 e9 e1 f5 e8 e4 b5 d3 b4 O d0 hd f1 h e5=>?_
  have d2:l2.blank=false:=by unfold Ln.blank;rw[O.tx];exact hs.nb
  have f0:=b5.len;have f4:g.length=H.length:=by have:=congrArg List.length b4;simp at this;omega
  have e0: ∀f∈g++ [y],f.ob.e<1000000000:=by
   obtain⟨_,_,_,_,_,_,d1,_⟩:=h;exact λf b3=>(d1 f b3).2.2.2
  refine DF (gs:=g++ [y]) e6 h (by simp;omega) ⟨by simp,by simp;omega⟩ O.ok d2 d0 (by omega) e3 c8 (hs.go l2 O) λw p' c4 c9 h=>?_
  rw[O.str,e1] at h;refine e5 w p' _ _ c4 c9 (e7 (E++ [s]) (n+1) I y H g b5 d3 b4 e0 (λx e2=>V x (.tail _ e2)) (by simp;omega) (by omega) λc5 b9 b8 c1 a1 a2 a3 a4 a5=>?_) h;have e:n+(s::rest).length=n+1+rest.length:=by simp;omega
  have:=U c5 b9 b8 c1 (e8.trans a1) (e4.trans a2) a3 a4 (by rw[e];exact a5);rw[e] at this;rw[lD0];exact this
theorem DY (d2:op.task=false){ec:ai}{d:Nat}{info:List UInt8}{ls:List (List UInt8)}(W:As ec)(g7: ∀c∈info,Ax c=true)(g2:info.length<10000)(f3: ∀s∈ls,CoL [96,96,96] s)(g0:ls.head? ≠some [])(d3:(dK ls).length<1073741824):
 BlkP G op ec ((96::96::96::info)::(ls++ [[96,96,96]])) (λn=> .mk {kind:=7,text:=dK ls,title:=info,mark:= [96,96,96],s:=n,e:=n+ls.length+1} []) d none:=by
 intro cx root top cf gs junk pend0 rem n Q n1 h5 b6 hr V a7 d0 n3 m2 E g σ R L b b1 pb p w l o4 n0 I c4 b9 H hd b3 U h y;have b3:LnR l (hN 3 96++info):=b3;have m4:=a7.len;have m6:gs.length=cf.length:=by have:=congrArg List.length V;simp at this;omega
 have en:n+((96::96::96::info)::(ls++ [[96,96,96]])).length=n+1+ls.length+1:=by simp;omega
 have g: ∀fs lf,St G op cx d (n+((96::96::96::info)::(ls++ [[96,96,96]])).length) gs top (pend0++ [.mk {kind:=7,text:=dK ls,title:=info,mark:= [96,96,96],s:=n+1,e:=n+1+ls.length+1} []]) fs lf->OkL ec op Q rem (n+((96::96::96::info)::(ls++ [[96,96,96]])).length) fs lf:=g
 rw[en] at g h5;have j1:=d0.len;refine zK d2 d0 h hd (by omega) (rI a7.toS hr V) b3 U (by decide) (by decide) g7 g2 W I (E.le (by omega)).1 (E.le (by omega)).2 b9 c4 (by omega) λw p' b8 h2 i1 g4 k1 k2 k3 k4 h=>?_
 rw[H] at h;obtain⟨d1,e5,h9,r2,h3⟩:=jz a7 hr V k1;have e9: ∀f∈gs++ [b8],f.ob.e<1000000000:=by
  obtain⟨_,_,_,_,_,_,g1,_⟩:=h;exact λf i2=>(g1 f i2).2.2.2
 have o0:=k3.len;have e2:((96::96::96::info)::(ls++ [[96,96,96]])).tail.map (ctx cx)++rem=ls.map (ctx cx)++(ctx cx [96,96,96]::rem):=by simp
 rw[e2] at y;refine y w p' _ _ i1 g4 (fenGo W (by omega) ls [] (n+1) d1 b8 e5 gs h3 r2 h9 e9 (λx c9=>⟨f3 x c9,b6 x (by simp[c9])⟩) (by simp;omega) (by omega) λe4 e1 i8 m8 a1 a2 a3 a4 a5=>?_) h
 show∀nl,pJ [ec] op (n+1+ls.length+1) (ctx cx [96,96,96]) nl (e4++e1:: []) (CW (n+1) (n+1+ls.length) [96,96,96] info ([]++ls)) (OkL ec op Q rem (n+1+ls.length+1))
 intro nl;have b4:([96,96,96]:List UInt8).all cL=false:=by decide
 refine zW a5.toS a3 a4 (λa x m1 _=>Bo b4 _) (by omega) (b6 _ (by simp)) λσ R L b b1 pb p w X c3 b5 j0 e7 l2 h4 I c4 b9 H m3 g6 a6 c8 f5 b7 O U hd m5 h y=>?_
 have f4:l2.blank=false:=by unfold Ln.blank;rw[O.tx];exact b4
 have k0:=c8.len;have n2:c3.length=e7.length:=by have:=congrArg List.length b7;simp at this;omega
 have e8:LnR l2 (hN 3 96++ []):=O;obtain⟨h1,h6,p1,f2⟩:=sF (word:= []) (by decide) (λc hc=>by cases hc) e8;have f1: ¬ vp [96,96,96] l2:=λh8=>h8 3 96 [] [] f2 rfl
 have e0:CO [96,96,96] l2:=⟨h1,λn c t info g3=>by
  obtain⟨rfl,rfl,rfl⟩:=h6 n c t info g3;exact⟨rfl,rfl⟩⟩
 have f6:b5.D.length<=90000:=by
  have:=E.all.1 top (by simp);rw[a6.2.2.1,a2.2.2.1,k2];simp;omega
 refine FD (gs:=c3) (top:=b5) h4 h hd (by omega) O.ok f4 U (by simp;omega) W I f1 e0 f6 λw p' l5 nb q c h7 e3 e6 c5 c2 f0 o2 h=>?_
 obtain⟨i3,o3,t1,g5,i0⟩:=jz c8 f5 b7 c5;rw[H] at c2;have c1:=St.fin (G:=G) (op:=op) (d:=d) (pend:= []) (ds2:=h2++ [mm nb (n+1) (n+1+ls.length+1) [96,96,96] info q ls.length c h7]) E (c5.lk.trans (a6.lk.trans (a2.lk.trans k1.lk))) (by rw[c2,a6.2.2.1,a2.2.2.1,k2,lD0];rfl) (k3.append (.cons (EV f0 (by omega) d3 g0 (by decide) (by omega) (by omega) (by omega)) .nil)) (by simp;omega) (by rw[de];simp[cj,mm];simp[cj] at k4;omega) (a1.trans g6) g5 t1 i0 .none (by omega)
 rw[lG0] at c1;exact y w p' _ _ e3 e6 (g _ _ c1) h
end Go.Proofs.YtendaipfdnhnaaaGreatDoor
