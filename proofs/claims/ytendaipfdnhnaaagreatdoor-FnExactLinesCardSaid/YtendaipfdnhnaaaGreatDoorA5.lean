/- Part 5 of the proof of the law FnExactLines: for every input the law returns true, the inputs read as they did, and memory that was there is as it was; under the conditions of the given row alone. -/
import Derived.Laws.IdiomStrings
import Derived.Test.YtendaipfdnhnaaaGreatDoorA4
set_option linter.all false
open Go.IntKind(i64)
open ByteArray renaming mk→hP
open List renaming replicate→hN
namespace Go.Proofs.YtendaipfdnhnaaaGreatDoor
open Go.Proofs Go.IntWalk Go.RowKit
set_option maxRecDepth 20000
variable {σ:Out} {w:World} {L L':List ai} {R:Ending->World->Prop} {G:List UInt8->List Inl} {op:Opt}

theorem AN {c:UInt8}(h:wB c=true):cM c=false/\lg c=false:=by
 have:=lD2.1 (show (List.range 256).all (λn=> !(wB (UInt8.ofNat n))||(!cM (UInt8.ofNat n) && !lg (UInt8.ofNat n)))=true by kernel_rfl) c.toNat (lV2.2 c.toNat_lt)
 rw[lY3,h] at this
 simpa using this
theorem F9 {c:UInt8}(h:wB c=true)(o:Opt):jU o c= .nil:=by
 have g:c≠92/\c≠96/\c≠60/\c≠91/\c≠33/\c≠95/\c≠42/\c≠46/\c≠45/\c≠34/\c≠39/\c≠126/\c≠10/\c≠38/\c≠58:=by
  refine⟨?_,?_,?_,?_,?_,?_,?_,?_,?_,?_,?_,?_,?_,?_,?_⟩<;>(rintro rfl;revert h;decide)
 simp[jU,g]
theorem okT.last: ∀ {l:List Tk} {n:Nat},okT n l->l≠ []-> ∃m d,tkB l=m++ [d]/\cM d=false/\d≠35
 | [],n,_,h=>absurd rfl h
 |t::r,n,h,_=>by
  by_cases hr:r= []
  ·subst hr
   have y: ∀ {s:List UInt8},WdP s-> ∃m d,s=m++ [d]/\cM d=false/\d≠35:=by
    intro s hs
    rcases lA2 s with g|⟨m,d,g⟩
    ·exact absurd g hs.ne
    ·rw[lL2] at g
     exact⟨m,d,g,(AN (hs.by_ d (by rw[g];simp))).1,by have:=hs.by_ d (by rw[g];simp);rintro rfl;revert this;decide⟩
   cases t with
   |wd s=>
    obtain⟨m,d,e,hd⟩:=y h.2.1
    exact⟨m,d,by rw[cv];simp[Tk.B,tkB];exact e,hd⟩
   |sp=>exact absurd h.2 (by simp[okT])
   |nl=>exact absurd h.2 (by simp[okT])
   |em k s=>
    obtain⟨j,rfl⟩: ∃j,k=j+1:=⟨k - 1,by have:=h.2.2.1;omega⟩
    refine⟨hN (j+1) 42++(s++hN j 42),42,?_,by decide,by decide⟩
    rw[cv];simp[Tk.B,tkB,lY4]
   |cd s=>exact⟨96::s,96,by rw[cv];simp[Tk.B,tkB],by decide,by decide⟩
   |lk s d=>exact⟨91::(s++93::40::d),41,by rw[cv];simp[Tk.B,tkB],by decide,by decide⟩
   |es s=>
    obtain⟨m,d,e,hd⟩:=y h.2.1
    exact⟨92::42::m,d,by rw[cv];simp[Tk.B,tkB];exact e,hd⟩
  ·have H: ∃E,okT E r:=by
    cases t with
    |wd s=>exact⟨_,h.2.2⟩
    |sp=>exact⟨_,h.2⟩
    |nl=>exact⟨_,h.2⟩
    |em k s=>exact⟨_,h.2.2.2⟩
    |cd s=>exact⟨_,h.2.2⟩
    |lk s d=>exact⟨_,h.2.2.2⟩
    |es s=>exact⟨_,h.2.2⟩
   obtain⟨E,I⟩:=H
   obtain⟨m,d,e,hd⟩:=okT.last I hr
   exact⟨t.B++m,d,by rw[cv,e,lD0],hd⟩
theorem okT.next {r:List Tk}(h:okT 2 r):tkB r= []\/ ∃B',tkB r=32::B'\/tkB r=10::B':=by
 cases r with
 |nil=>exact .inl rfl
 |cons t r=>
  cases t with
  |sp=>exact .inr ⟨tkB r,.inl rfl⟩
  |nl=>exact .inr ⟨tkB r,.inr rfl⟩
  |wd s=>exact absurd rfl h.1
  |em k s=>exact absurd h.1 (by decide)
  |cd s=>exact absurd h.1 (by decide)
  |lk s d=>exact absurd h.1 (by decide)
  |es s=>exact absurd h.1 (by decide)
theorem okT.first {r:List Tk}(h:okT 0 r): ∃s g,r= .wd s::g/\WdP s:=by
 cases r with
 |nil=>exact absurd h (by simp[okT])
 |cons t r=>
  cases t with
  |wd s=>exact⟨s,r,rfl,h.2.1⟩
  |sp=>exact absurd h.1 (by decide)
  |nl=>exact absurd h.1 (by decide)
  |em k s=>exact absurd h.1 (by decide)
  |cd s=>exact absurd h.1 (by decide)
  |lk s d=>exact absurd h.1 (by decide)
  |es s=>exact absurd h.1 (by decide)
theorem uX {t:Inl}(ht:sD t=none)(h:Option UInt8):h=none\/sD t≠h:=by
 cases h with
 |none=>exact .inl rfl
 |some c=>exact .inr (by rw[ht];simp)
theorem pG {p:List UInt8}{h:Option UInt8}{ts:List Inl}(y:p≠ [])(g:nz none ts):nz h (fl p++ts):=by
 unfold fl
 rw[if_neg y]
 exact⟨uX rfl h,g⟩
theorem kU: ∀(l:List Tk) (n:Nat) (p:List UInt8) (h:Option UInt8),okT n l->(n=1->p≠ [])->(h=none\/p≠ []\/n=2)->nz h (tkG Tk.raw p l)
 | [],n,p,h,_,_,_=>by
  show nz h (fl p)
  unfold fl
  split
  ·trivial
  ·exact⟨uX rfl h,trivial⟩
 | .wd s::r,n,p,h,hok,_,_=>kU r 2 (p++s) h hok.2.2 (by simp) (.inr (.inr rfl))
 | .sp::r,n,p,h,hok,_,_=>kU r 1 (p++ [32]) h hok.2 (by simp) (.inr (.inl (by simp)))
 | .nl::r,n,p,h,hok,_,_=>by
  have y:=kU r 0 [] none hok.2 (by simp) (.inl rfl)
  show nz h (fl p++(.soft::tkG Tk.raw [] r))
  by_cases g:p= []
  ·subst g;exact⟨uX rfl h,y⟩
  ·exact pG g ⟨.inl rfl,y⟩
 | .em k s::r,n,p,h,hok,g,_=>by
  have y:=kU r 2 [] (sD (.emphP (hN k 42) false true 0 (k:Nat))) hok.2.2.2 (by simp) (.inr (.inr rfl))
  exact pG (g hok.1) ⟨.inl rfl,⟨uX rfl _,⟨.inl rfl,y⟩⟩⟩
 | .cd s::r,n,p,h,hok,g,_=>pG (g hok.1) ⟨.inl rfl,kU r 2 [] none hok.2.2 (by simp) (.inl rfl)⟩
 | .lk s d::r,n,p,h,hok,g,_=>pG (g hok.1) ⟨.inl rfl,kU r 2 [] none hok.2.2.2 (by simp) (.inl rfl)⟩
 | .es s::r,n,p,h,hok,g,_=>pG (g hok.1) ⟨.inl rfl,kU r 2 s none hok.2.2 (by simp) (.inl rfl)⟩
theorem ow {f:Tk->List Inl}: ∀(l:List Tk) (n:Nat) (p:List UInt8) (t:Inl),okT n l->t∈tkG f p l->(∃s,s≠ []/\s.length<=p.length+(tkB l).length/\t= .plain s)\/t= .esc [42]\/t∈f .nl\/(∃k s,WdP s/\(k=1\/k=2)/\t∈f (.em k s))\/(∃s,WdP s/\t∈f (.cd s))\/ ∃s d,WdP s/\DsP d/\t∈f (.lk s d)
 | [],n,p,t,_,h=>by
  have h:t∈fl p:=h
  unfold fl at h
  split at h
  ·cases h
  ·rename_i H;obtain rfl:=lQ0.1 h;exact .inl ⟨p,H,by omega,rfl⟩
 | .wd s::r,n,p,t,hok,h=>by
  rcases ow r 2 (p++s) t hok.2.2 h with ⟨u,g,E,y⟩|h
  ·exact .inl ⟨u,g,by rw[cv,lA0];simp[Tk.B] at E⊢;omega,y⟩
  ·exact .inr h
 | .sp::r,n,p,t,hok,h=>by
  rcases ow r 1 (p++ [32]) t hok.2 h with ⟨u,g,E,y⟩|h
  ·exact .inl ⟨u,g,by rw[cv,lA0];simp[Tk.B] at E⊢;omega,y⟩
  ·exact .inr h
 | .es s::r,n,p,t,hok,h=>by
  have h:t∈fl p++ .esc [42]::tkG f s r:=h
  rcases lO0.1 h with h|h
  ·unfold fl at h
   split at h
   ·cases h
   ·rename_i H;obtain rfl:=lQ0.1 h;exact .inl ⟨p,H,by omega,rfl⟩
  ·rcases lW0.1 h with rfl|h
   ·exact .inr (.inl rfl)
   ·rcases ow r 2 s t hok.2.2 h with ⟨u,g,E,y⟩|h
    ·exact .inl ⟨u,g,by rw[cv,lA0];simp[Tk.B] at E⊢;omega,y⟩
    ·exact .inr h
 | .nl::r,n,p,t,hok,h=>by
  have h:t∈fl p++(f .nl++tkG f [] r):=h
  rcases lO0.1 h with h|h
  ·unfold fl at h
   split at h
   ·cases h
   ·rename_i H;obtain rfl:=lQ0.1 h;exact .inl ⟨p,H,by omega,rfl⟩
  ·rcases lO0.1 h with h|h
   ·exact .inr (.inr (.inl h))
   ·rcases ow r 0 [] t hok.2 h with ⟨u,g,E,y⟩|h
    ·exact .inl ⟨u,g,by rw[cv,lA0];simp[Tk.B] at E⊢;omega,y⟩
    ·exact .inr h
 | .em k s::r,n,p,t,hok,h=>by
  have h:t∈fl p++(f (.em k s)++tkG f [] r):=h
  rcases lO0.1 h with h|h
  ·unfold fl at h
   split at h
   ·cases h
   ·rename_i H;obtain rfl:=lQ0.1 h;exact .inl ⟨p,H,by omega,rfl⟩
  ·rcases lO0.1 h with h|h
   ·exact .inr (.inr (.inr (.inl ⟨k,s,hok.2.1,hok.2.2.1,h⟩)))
   ·rcases ow r 2 [] t hok.2.2.2 h with ⟨u,g,E,y⟩|h
    ·exact .inl ⟨u,g,by rw[cv,lA0];simp[Tk.B] at E⊢;omega,y⟩
    ·exact .inr h
 | .cd s::r,n,p,t,hok,h=>by
  have h:t∈fl p++(f (.cd s)++tkG f [] r):=h
  rcases lO0.1 h with h|h
  ·unfold fl at h
   split at h
   ·cases h
   ·rename_i H;obtain rfl:=lQ0.1 h;exact .inl ⟨p,H,by omega,rfl⟩
  ·rcases lO0.1 h with h|h
   ·exact .inr (.inr (.inr (.inr (.inl ⟨s,hok.2.1,h⟩))))
   ·rcases ow r 2 [] t hok.2.2 h with ⟨u,g,E,y⟩|h
    ·exact .inl ⟨u,g,by rw[cv,lA0];simp[Tk.B] at E⊢;omega,y⟩
    ·exact .inr h
 | .lk s d::r,n,p,t,hok,h=>by
  have h:t∈fl p++(f (.lk s d)++tkG f [] r):=h
  rcases lO0.1 h with h|h
  ·unfold fl at h
   split at h
   ·cases h
   ·rename_i H;obtain rfl:=lQ0.1 h;exact .inl ⟨p,H,by omega,rfl⟩
  ·rcases lO0.1 h with h|h
   ·exact .inr (.inr (.inr (.inr (.inr ⟨s,d,hok.2.1,hok.2.2.1,h⟩))))
   ·rcases ow r 2 [] t hok.2.2.2 h with ⟨u,g,E,y⟩|h
    ·exact .inl ⟨u,g,by rw[cv,lA0];simp[Tk.B] at E⊢;omega,y⟩
    ·exact .inr h
theorem wf_tk {l:List Tk}{n:Nat}{p:List UInt8}(h:okT n l):wfE (tkG Tk.raw p l):=by
 intro s O I i m H
 rcases ow l n p _ h H with ⟨u,_,_,h⟩|h|h|⟨k,u,_,y,h⟩|⟨u,_,h⟩|⟨u,d,_,_,h⟩
 ·cases h
 ·cases h
 ·simp[Tk.raw] at h
 ·have g:s=hN k 42/\m=((k:Nat):Int):=by
   simp only[Tk.raw,lW0,lD1,or_false] at h
   rcases h with h|h|h
   ·injection h with h1 h2 h3 h4 h5;exact⟨h1,h5⟩
   ·cases h
   ·injection h with h1 h2 h3 h4 h5;exact⟨h1,h5⟩
  obtain⟨rfl,rfl⟩:=g
  exact⟨by rcases y with rfl|rfl<;>simp,⟨42,.inl rfl,λx E=>(lT3.1 E).2⟩,by simp;omega,by omega,by omega⟩
 ·simp[Tk.raw] at h
 ·simp[Tk.raw] at h
theorem Gm {l:List Tk}{n:Nat}{p:List UInt8}(h:okT n l): ∀t∈tkG Tk.out p l,∀s,t.plain? =some s->s≠ []:=by
 intro t ht s hs
 rcases ow l n p _ h ht with ⟨u,g,_,rfl⟩|rfl|h|⟨k,u,_,y,h⟩|⟨u,_,h⟩|⟨u,d,_,_,h⟩
 ·simp[Inl.plain?] at hs;subst hs;exact g
 ·simp[Inl.plain?] at hs
 ·simp[Tk.out] at h;subst h;simp[Inl.plain?] at hs
 ·simp only[Tk.out,lQ0] at h
  subst h
  split at hs<;>simp[Inl.plain?] at hs
 ·simp[Tk.out] at h;subst h;simp[Inl.plain?] at hs
 ·simp[Tk.out] at h;subst h;simp[Inl.plain?] at hs
theorem Ba {l:List Tk}{n:Nat}{p:List UInt8}(h:okT n l)(U:p.length+(tkB l).length<1000000):lR (tkG Tk.out p l):=by
 have y: ∀ts:List Inl,(∀t∈ts,rM t)->lR ts:=by
  intro ts
  induction ts with
  |nil=>intro _;rw[lR];trivial
  |cons t ts E=>intro h;rw[lR];exact⟨h t (.head _),E λx H=>h x (.tail _ H)⟩
 have one: ∀s:List UInt8,s.length<=100->lR [Inl.plain s]:=λs hs=>by
  rw[lR,rM,lR];exact⟨by omega,trivial⟩
 refine y _ λt ht=>?_
 rcases ow l n p _ h ht with ⟨u,g,I,rfl⟩|rfl|h|⟨k,u,g,O,h⟩|⟨u,g,h⟩|⟨u,d,g,hd,h⟩
 ·rw[rM];omega
 ·rw[rM];simp
 ·simp[Tk.out] at h;subst h;rw[rM];trivial
 ·simp only[Tk.out,lQ0] at h
  subst h
  have:=one u g.len
  split
  ·rw[rM];exact⟨by simp,by simp,this⟩
  ·rw[rM];exact⟨by simp,by simp,this⟩
 ·simp[Tk.out] at h;subst h;rw[rM];have:=g.len;omega
 ·simp[Tk.out] at h;subst h;rw[rM]
  have:=hd.len
  exact⟨by omega,by simp,rfl,by simp,one u g.len⟩
theorem qM {q:List (List UInt8)}{t:Inl}{ts:List Inl}(h:t.plain? =none):d9 q (t::ts)=qR q++t::d9 [] ts:=by rw[d9,h]
theorem zY (q:List (List UInt8))(p:List UInt8)(ts:List Inl):d9 q (.plain p::ts)=d9 (q++ [p]) ts:=rfl
theorem ph {p:List UInt8}{t:Inl}{ts:List Inl}(ht:t.plain? =none):d9 [] (fl p++(t::ts))=fl p++t::d9 [] ts:=by
 by_cases g:p= []
 ·subst g
  show d9 [] (t::ts)=_
  rw[qM ht];rfl
 ·have e:fl p= [.plain p]:=by simp[fl,g]
  rw[e,lR2,zY,qM ht]
  simp[qR]
theorem kK: ∀(l:List Tk) (n:Nat) (p:List UInt8),okT n l->kM (tkG Tk.out p l)=tkG Tk.out p l
 | [],n,p,_=>by
  show kM (fl p)=fl p
  by_cases y:p= []
  ·subst y;rfl
  ·simp[fl,y,kM,d9,qR,Inl.plain?]
 | .wd s::r,n,p,h=>kK r 2 _ h.2.2
 | .sp::r,n,p,h=>kK r 1 _ h.2
 | .nl::r,n,p,h=>by
  have g:=kK r 0 [] h.2
  show d9 [] (fl p++(.soft::tkG Tk.out [] r))=fl p++(.soft::tkG Tk.out [] r)
  rw[ph rfl];unfold kM at g;rw[g]
 | .em k s::r,n,p,h=>by
  have g:=kK r 2 [] h.2.2.2
  have y: ∀c:Prop,[Decidable c]->(if c then Inl.emph [42] [.plain s] else Inl.strong [42,42] [.plain s]).plain? =none:=by intro c _;split<;>rfl
  show d9 [] (fl p++((if k=1 then Inl.emph [42] [.plain s] else .strong [42,42] [.plain s])::tkG Tk.out [] r))=fl p++((if k=1 then Inl.emph [42] [.plain s] else .strong [42,42] [.plain s])::tkG Tk.out [] r)
  rw[ph (y _)];unfold kM at g;rw[g]
 | .cd s::r,n,p,h=>by
  have g:=kK r 2 [] h.2.2
  show d9 [] (fl p++(.code s::tkG Tk.out [] r))=fl p++(.code s::tkG Tk.out [] r)
  rw[ph rfl];unfold kM at g;rw[g]
 | .lk s d::r,n,p,h=>by
  have g:=kK r 2 [] h.2.2.2
  show d9 [] (fl p++(.link [.plain s] d [] 0 false::tkG Tk.out [] r))=fl p++(.link [.plain s] d [] 0 false::tkG Tk.out [] r)
  rw[ph rfl];unfold kM at g;rw[g]
 | .es s::r,n,p,h=>by
  have g:=kK r 2 s h.2.2
  show d9 [] (fl p++(.esc [42]::tkG Tk.out s r))=fl p++(.esc [42]::tkG Tk.out s r)
  rw[ph rfl];unfold kM at g;rw[g]
theorem pZ (p:List UInt8):rk (fl p)=p.length:=by
 by_cases g:p= []
 ·subst g;rfl
 ·simp[fl,g,rk,Inl.plain?]
theorem mN: ∀(l:List Tk) (n:Nat) (p:List UInt8),okT n l->rk (tkG Tk.out p l)<=p.length+(tkB l).length
 | [],n,p,_=>by show rk (fl p)<=_;rw[pZ];omega
 | .wd s::r,n,p,h=>by have:=mN r 2 (p++s) h.2.2;rw[cv,lA0];simp[Tk.B,tkG] at this⊢;omega
 | .sp::r,n,p,h=>by have:=mN r 1 (p++ [32]) h.2;rw[cv,lA0];simp[Tk.B,tkG] at this⊢;omega
 | .nl::r,n,p,h=>by
  have:=mN r 0 [] h.2
  rw[cv,lA0];simp only[tkG,jd,pZ];simp[Tk.B,Tk.out,rk,Inl.plain?] at this⊢;omega
 | .em k s::r,n,p,h=>by
  have:=mN r 2 [] h.2.2.2
  have g:rk (Tk.out (.em k s))=0:=by show rk [if k=1 then Inl.emph [42] [.plain s] else Inl.strong [42,42] [.plain s]]=0;split<;>rfl
  rw[cv,lA0];simp only[tkG,jd,pZ,g];simp at this⊢;omega
 | .cd s::r,n,p,h=>by
  have:=mN r 2 [] h.2.2
  rw[cv,lA0];simp only[tkG,jd,pZ];simp[Tk.B,Tk.out,rk,Inl.plain?] at this⊢;omega
 | .lk s d::r,n,p,h=>by
  have:=mN r 2 [] h.2.2.2
  rw[cv,lA0];simp only[tkG,jd,pZ];simp[Tk.B,Tk.out,rk,Inl.plain?] at this⊢;omega
 | .es s::r,n,p,h=>by
  have:=mN r 2 s h.2.2
  rw[cv,lA0];simp only[tkG,jd,pZ,rk,Inl.plain?];simp[Tk.B] at this⊢;omega
theorem xD {l:List UInt8}{c d:UInt8}{t m:List UInt8}(y:l=c::t)(hc:cM c=false)(g:l=m++ [d])(hd:cM d=false):gj cM l=l:=by
 unfold gj vE
 have H:l.dropWhile cM=l:=by rw[y,lA3,hc];rfl
 rw[H]
 have E:l.reverse=d::m.reverse:=by rw[g];simp
 rw[E,lA3,hd]
 simp[g]

theorem mf {raw:List UInt8}{e i:Nat}(ts:List Inl)(I:e<=i)(E:i<=raw.length):kx raw e i ts=ts++fl (sub raw e i):=by
 have y:=pW (s:=raw) (i:=e) (j:=i) E
 unfold kx fl
 by_cases g:e<i
 ·rw[if_pos g,if_neg (by intro H;rw[H] at y;simp at y;omega)]
 ·rw[if_neg g,if_pos (lB1 (by omega)),lG0]
theorem Cf (p:List UInt8):(fl p).length<=1:=by unfold fl;split<;>simp
theorem WdP.last {s:List UInt8}(h:WdP s): ∃m d,s=m++ [d]/\cM d=false:=by
 rcases lA2 s with g|⟨m,d,g⟩
 ·exact absurd g h.ne
 ·rw[lL2] at g
  exact⟨m,d,g,(AN (h.by_ d (by rw[g];simp))).1⟩
theorem AtD.word {X:XI}{b pb e:Nat}{p0:PS}{A s B raw:List UInt8}{ts:List Inl}{opens:List Nat}{lo:Int}{o:Opt}(I:xj R X b raw)(g:raw=A++(s++B))(H: ∀c∈s,wB c=true)(hs:raw.length<1000000000)(E:p0.pz=kE pb)(O:o.at pb∈L)(h:AtD X σ b p0 raw L (A.length+s.length) e ts opens lo):AtD X σ b p0 raw L A.length e ts opens lo:=by
 have a6:raw.length=A.length+(s.length+B.length):=by rw[g];simp
 refine AtD.plains I hs E O s.length A.length (by omega) (λj W U V=>?_) h
 have y:wB raw[j]=true:=by
  obtain⟨k,rfl⟩: ∃k,j=A.length+k:=⟨j - A.length,by omega⟩
  have:raw[A.length+k]=s[k]'(by omega):=by
   subst g
   rw[lJ2 (by omega)]
   simp only[lY5]
   rw[lQ5]
  rw[this];exact H _ (lP1 _)
 exact⟨F9 y o,(vz y).2.2.2.2.2.1⟩
theorem tE {o:Opt}(e6:o.auto=false){l:List Tk}(b3:okT 0 l)(e7:(tkB l).length<200000):ju none [] o (tkB l) (tkG Tk.out [] l):=by
 intro σ R b pb p L w _ h f5 V i3 h7
 have e5:=DO b3
 have g5:=wf_tk (p:= []) b3
 have e8:=kU l 0 [] none b3 (by simp) (.inl rfl)
 have f2:=Gm (p:= []) b3
 have e0:=mN l 0 [] b3
 have g3:=kK l 0 [] b3
 have f3:gj cM (tkB l)=tkB l:=by
  obtain⟨s,r,rfl,hs⟩:=b3.first
  obtain⟨m,d,e,hd,_⟩:=b3.last (by simp)
  obtain⟨c,t,rfl⟩:=lA1 hs.ne
  exact xD (c:=c) (t:=t++tkB r) rfl (AN (hs.by_ c (.head _))).1 e hd
 refine B0 h (by omega) λw h=>?_
 rw[f3] at h⊢
 generalize hr:tkB l=raw at h e7 e0⊢
 intro X h5
 have O:xj R X b raw:=λk0 _ _ _ _ _ _ h=>h5 _ _ _ _ _ _ _ _ _ h
 generalize c9:({p with s:=raw,em:=0,lq:=none,ln:=0,lc:=0}:PS)=p0 at h
 have I:p0.pz=kE pb:=by rw[<-c9];exact f5
 have f6:p0.coreS=p.coreS:=by rw[<-c9];rfl
 have a6:raw.length<1000000000:=by omega
 suffices f1:AtD X σ b p0 raw L 0 0 [] [] 0 from f1 false w p0 none 0 0 (λh=>by cases h) rfl (by rw[<-c9]) (by rw[<-c9];rfl) h
 have f0: ∀(suf:List Tk) (n:Nat) (A:List UInt8) (e:Nat) (ts:List Inl) (lo:Int),raw=A++tkB suf->okT n suf->(n=1-> ∃g,A=g++ [32])->(n=2-> ∃g c,A=g++ [c]/\cM c=false)->e<=A.length->ts.length<=4*A.length->lo<=(A.length:Int)->
  ts++tkG Tk.raw (sub raw e A.length) suf=tkG Tk.raw [] l->AtD X σ b p0 raw L A.length e ts [] lo:=by
  intro suf
  induction suf with
  |nil=>
   intro n A e ts lo E H _ _ a7 e2 d5 U
   have E:raw=A:=by rw[E];simp[tkB]
   subst E
   refine AtD.fin (ts':=tkG Tk.out [] l) O a6 I V e6 (by omega) ?_ f2 (by simp at e0;omega) λw p' q n c vs RM EM g6 i1 h4 e3 h=>?_
   ·rw[mf ts a7 (lZ0 _)]
    have U:ts++fl (sub raw e raw.length)=tkG Tk.raw [] l:=U
    rw[U,<-e5]
    refine Aj g5 e8 ?_
    rw[<-U,lA0]
    have:=Cf (sub raw e raw.length)
    omega
   ·rw[g3] at e3
    exact h7 w p' q n c vs RM EM (g6.trans f6) i1 h4 e3 h
  |cons t suf b9=>
   intro n A e ts lo E H i0 h9 a7 e2 d5 U
   rw[cv] at E
   have c1:raw.length=A.length+(t.B.length+(tkB suf).length):=by rw[E];simp
   have g0:=Cf (sub raw e A.length)
   have b7:raw=(A++t.B)++tkB suf:=by rw[E,lD0]
   have y:(A++t.B).length=A.length+t.B.length:=lA0
   cases t with
   |wd s=>
    have hs:=H.2.1
    have E:raw=A++(s++tkB suf):=E
    refine AtD.word O E hs.by_ a6 I V ?_
    have:=b9 2 (A++s) e ts lo b7 H.2.2 (by simp) (λ_=>by obtain⟨m,d,e,hd⟩:=hs.last;exact⟨A++m,d,by rw[e,lD0],hd⟩) (by simp;omega) (by simp;omega) (by simp;omega) ?_
    ·simpa using this
    ·have c5:=yY (A:=A) (B:=tkB suf) (e:=e) s a7
     rw[<-E] at c5
     rw[lA0,c5];exact U
   |sp=>
    have E:raw=A++32::tkB suf:=E
    have hi:A.length<raw.length:=by rw[c1];simp[Tk.B];omega
    have d2:raw[A.length]=32:=by subst E;rw[lJ2 (lZ0 _)];simp
    refine AtD.plain O hi a6 I V (by rw[d2];rfl) (.inr rfl) ?_
    have:=b9 1 (A++ [32]) e ts lo b7 H.2 (λ_=>⟨A,rfl⟩) (by simp) (by simp;omega) (by simp;omega) (by simp;omega) ?_
    ·simpa using this
    ·have c5:=yY (A:=A) (B:=tkB suf) (e:=e) [32] a7
     rw[show A++([32]++tkB suf)=raw from E.symm] at c5
     rw[lA0,c5];exact U
   |nl=>
    have E:raw=A++10::tkB suf:=E
    have hi:A.length<raw.length:=by rw[c1];simp[Tk.B];omega
    have d2:raw[A.length]=10:=by subst E;rw[lJ2 (lZ0 _)];simp
    have g4: ∀k,k+1=A.length->cM (A.getD k 0)=false:=by
     obtain⟨g,c,rfl,hc⟩:=h9 H.1
     intro k d1
     simp at d1
     subst d1
     rw[pw (lZ0 _),lW1];exact hc
    have e9:0<(tkB suf).length->cM ((tkB suf).getD 0 0)=false:=by
     intro _
     obtain⟨s,j0,rfl,hs⟩:=H.2.first
     obtain⟨c,t,rfl⟩:=lA1 hs.ne
     exact(AN (hs.by_ c (.head _))).1
    refine AtD.leaf (st:=A.length) (en:=A.length+1) (t:= .soft) O hi a6 I V (f:=jF) (by rw[d2];rfl) (L0:= []) (by simp) (λp _ _=>by rw[E];exact Aq g4 e9 (by rw[<-E];omega)) (by omega) (by omega) (by simp) ?_
    rw[mf ts a7 (by omega)]
    have:=b9 0 (A++ [10]) (A.length+1) (ts++fl (sub raw e A.length)++ [.soft]) lo b7 H.2 (by simp) (by simp) (by simp) (by simp;omega) (by simp;omega) ?_
    ·simpa[Inl.isOpen] using this
    ·rw[lA0,lE0,sub_self,<-U];simp[tkG,Tk.raw]
   |em k s=>
    obtain⟨g,rfl⟩:=i0 H.1
    have hs:=H.2.1
    have d1:=H.2.2.1
    have d4:=H.2.2.2
    have b8:(Tk.em k s).B.length=k+(s.length+k):=by simp[Tk.B]
    rw[b8] at c1 y
    have b6:(g++ [32]).length=g.length+1:=by simp
    have W:raw=g++32::(hN k 42++(s++(hN k 42++tkB suf))):=by rw[E];simp[Tk.B]
    have r2:raw=(g++ [32])++(hN k 42++(s++(hN k 42++tkB suf))):=by rw[W];simp
    have b4:raw=(g++ [32]++hN k 42)++(s++(hN k 42++tkB suf)):=by rw[r2,lD0 (g++ [32])]
    have i2:raw=(g++ [32]++hN k 42++s)++(hN k 42++tkB suf):=by rw[b4,lD0 _ s]
    have l3:(g++ [32]++hN k 42).length=g.length+1+k:=by simp;omega
    have l4:(g++ [32]++hN k 42++s).length=g.length+1+k+s.length:=by simp;omega
    have e1: ∀(Y B:List UInt8) (i:Nat) (hi:i<raw.length),raw=Y++(hN k 42++B)->Y.length=i->raw[i]=42:=by
     intro Y B i hi h6 g7
     have:raw[i]? =some 42:=by
      rw[h6,lH0 (by omega),g7,lW1]
      obtain⟨j,rfl⟩: ∃j,k=j+1:=⟨k - 1,by omega⟩
      rfl
     rw[lI0 hi] at this
     exact Option.some.inj this
    rw[b6] at a7 e2 d5 U c1⊢
    have g0:(fl (sub raw e (g.length+1))).length<=1:=Cf _
    have c2:=e1 _ _ (g.length+1) (by omega) r2 b6
    have d3:=e1 _ _ (g.length+1+k+s.length) (by omega) i2 l4
    refine AtD.leaf (st:=g.length+1) (en:=g.length+1+k) (t:= .emphP (hN k 42) true false 0 (k:Nat)) O (by omega) a6 I V (f:=dO) (by rw[c2];rfl) (L0:= []) (by simp) (λp _ _=>?_) (by omega) (by omega) (by simp) ?_
    ·rw[W];exact hs.opn b p g _ k (by omega) (by rw[<-W];omega)
    rw[mf ts a7 (by omega)]
    have c3:(Inl.emphP (hN k 42) true false 0 (k:Nat)).isOpen=false:=rfl
    rw[c3]
    show AtD X σ b p0 raw L (g.length+1+k) (g.length+1+k) _ [] lo
    have b5:=AtD.word (X:=X) (σ:=σ) (p0:=p0) (e:=g.length+1+k) (ts:=ts++fl (sub raw e (g.length+1))++ [.emphP (hN k 42) true false 0 (k:Nat)]) (opens:= []) (lo:=lo) O b4 hs.by_ a6 I V
    rw[l3] at b5
    refine b5 ?_
    refine AtD.leaf (st:=g.length+1+k+s.length) (en:=g.length+1+k+s.length+k) (t:= .emphP (hN k 42) false true 0 (k:Nat)) O (by omega) a6 I V (f:=dO) (by rw[d3];rfl) (L0:= []) (by simp) (λp _ _=>?_) (by omega) (by simp;omega) (by simp) ?_
    ·have:=hs.cls b p (g++ [32]++hN k 42) (tkB suf) k (by omega) d4.next (by rw[<-b4];omega)
     rw[<-b4,l3] at this
     exact this
    have c4:sub raw (g.length+1+k) (g.length+1+k+s.length)=s:=by
     have:=pV (g++ [32]++hN k 42) s (hN k 42++tkB suf)
     rw[<-b4,l3] at this
     exact this
    have h3:fl s= [.plain s]:=by unfold fl;rw[if_neg hs.ne]
    rw[mf _ (by omega) (by omega),c4,h3]
    have e4:(Inl.emphP (hN k 42) false true 0 (k:Nat)).isOpen=false:=rfl
    rw[e4]
    show AtD X σ b p0 raw L (g.length+1+k+s.length+k) (g.length+1+k+s.length+k) _ [] lo
    have:=b9 2 ((g++ [32])++(Tk.em k s).B) (g.length+1+k+s.length+k) (ts++fl (sub raw e (g.length+1))++ [.emphP (hN k 42) true false 0 (k:Nat)]++ [.plain s]++ [.emphP (hN k 42) false true 0 (k:Nat)]) lo b7 d4 (by simp) (λ_=>?_) (by rw[y,b6];omega) ?_ (by rw[y,b6];omega) ?_
    ·rw[y,b6,show g.length+1+(k+(s.length+k))=g.length+1+k+s.length+k by omega] at this
     exact this
    ·obtain⟨j,rfl⟩: ∃j,k=j+1:=⟨k - 1,by omega⟩
     exact⟨(g++ [32])++(hN (j+1) 42++(s++hN j 42)),42,by simp[Tk.B,lY4],by decide⟩
    ·rw[y,b6];simp only[lA0,lE0];omega
    ·rw[y,b6,show g.length+1+(k+(s.length+k))=g.length+1+k+s.length+k by omega,sub_self,<-U];simp[tkG,Tk.raw]
   |cd s=>
    have hs:=H.2.1
    have W:raw=A++96::(s++96::tkB suf):=by rw[E];simp[Tk.B]
    have b8:(Tk.cd s).B.length=s.length+2:=by simp[Tk.B]
    rw[b8] at c1 y
    refine AtD.code O W hs.ne (λc hc=>?_) ?_ (by omega) I V (by omega) (by simp) ?_
    ·have:=vz (hs.by_ c hc);exact⟨this.2.1,this.2.2.2.2.1,this.2.2.2.2.2.2.2.1⟩
    ·rcases H.2.2.next with d0|⟨B',d0|d0⟩<;>rw[d0]<;>simp
    rw[mf ts a7 (by omega)]
    have:=b9 2 (A++(Tk.cd s).B) (A.length+s.length+2) (ts++fl (sub raw e A.length)++ [.code s]) lo b7 H.2.2 (by simp) (λ_=>⟨A++96::s,96,by simp[Tk.B],by decide⟩) (by rw[y];omega) (by rw[y];simp;omega) (by rw[y];omega) ?_
    ·rw[y] at this;exact this
    ·rw[y,show A.length+s.length+2=A.length+(s.length+2) by omega,sub_self,<-U];simp[tkG,Tk.raw]
   |lk s d=>
    have hs:=H.2.1
    have hd:=H.2.2.1
    have W:raw=A++91::(s++93::40::(d++41::tkB suf)):=by rw[E];simp[Tk.B]
    have r2:raw=(A++ [91])++(s++93::40::(d++41::tkB suf)):=by rw[W];simp
    have b4:raw=(A++ [91]++s)++93::40::(d++41::tkB suf):=by rw[r2,lD0 _ s]
    have l2:(A++ [91]).length=A.length+1:=by simp
    have l3:(A++ [91]++s).length=A.length+1+s.length:=by simp;omega
    have b8:(Tk.lk s d).B.length=s.length+d.length+4:=by simp[Tk.B];omega
    rw[b8] at c1 y
    have c2:raw[A.length]'(by omega)=91:=by
     have:raw[A.length]? =some 91:=by rw[W,lH0 (lZ0 _),lW1];rfl
     rw[lI0 (by omega)] at this
     exact Option.some.inj this
    have d3:raw[A.length+1+s.length]'(by omega)=93:=by
     have:raw[A.length+1+s.length]? =some 93:=by rw[b4,lH0 (by omega),l3,lW1];rfl
     rw[lI0 (by omega)] at this
     exact Option.some.inj this
    refine AtD.leaf (st:=A.length) (en:=A.length+1) (t:= .openP [91] (A.length+1)) O (by omega) a6 I V (f:=gn) (by rw[c2];rfl) (L0:= []) (by simp) (λp _ _=>uN (by omega) (by omega) c2) (by omega) (by omega) (by simp) ?_
    rw[mf ts a7 (by omega)]
    have c3:(Inl.openP [91] (A.length+1)).isOpen=true:=rfl
    rw[c3]
    show AtD X σ b p0 raw L (A.length+1) (A.length+1) _ ([]++ [(ts++fl (sub raw e A.length)).length]) lo
    have b5:=AtD.word (X:=X) (σ:=σ) (p0:=p0) (e:=A.length+1) (ts:=ts++fl (sub raw e A.length)++ [.openP [91] (A.length+1)]) (opens:= []++ [(ts++fl (sub raw e A.length)).length]) (lo:=lo) O r2 hs.by_ a6 I V
    rw[l2] at b5
    refine b5 ?_
    have c4:sub raw (A.length+1) (A.length+1+s.length)=s:=by
     have:=pV (A++ [91]) s (93::40::(d++41::tkB suf))
     rw[<-r2,l2] at this
     exact this
    have c8:mu raw (A.length+1) (A.length+1+s.length)= [.plain s]:=by
     have:=lY0.2 hs.ne
     unfold mu;rw[if_pos (by omega),c4]
    have f4: ∀p:PS,vv b p raw (A.length+1+s.length) [91] (A.length+1) [] d [] 0 false (A.length+1+s.length+3+d.length):=by
     intro p
     have:=yC (b:=b) (p:=p) (A:=A++ [91]++s) (B:=tkB suf) (D:=d) (t:= [91]) (k:=A.length+1) (by rw[<-b4];omega) hd.ne hd.by_
     rw[<-b4,l3] at this
     exact this
    refine AtD.close (en:=A.length+1+s.length+3+d.length) (url:=d) (title:= []) (tc:=0) (cor:=false) (img:=false) (L0:= []) (ts1:=ts++fl (sub raw e A.length)) (ts2:= []) O (by omega) (by omega) d3 I V (by simp) rfl (by simp) (.inr (by omega)) (by have:=hd.len;omega) (λp _ _=>f4 p) (by rw[c8];simp) ?_ ?_ (by simp;omega) (by simp) ?_
    ·rw[c8];intro s' j1 i8 i m h8;simp at h8
    ·rw[c8];exact⟨.inl rfl,trivial⟩
    rw[c8]
    show AtD X σ b p0 raw L _ _ (ts++fl (sub raw e A.length)++ [.link [.plain s] d [] 0 false]) [] ((A.length+1:Nat):Int)
    have:=b9 2 (A++(Tk.lk s d).B) (A.length+1+s.length+3+d.length) (ts++fl (sub raw e A.length)++ [.link [.plain s] d [] 0 false]) ((A.length+1:Nat):Int) b7 H.2.2.2 (by simp) (λ_=>⟨A++91::(s++93::40::d),41,by simp[Tk.B],by decide⟩) (by rw[y];omega) (by rw[y];simp;omega) (by rw[y];omega) ?_
    ·rw[y,show A.length+(s.length+d.length+4)=A.length+1+s.length+3+d.length by omega] at this;exact this
    ·rw[y,show A.length+(s.length+d.length+4)=A.length+1+s.length+3+d.length by omega,sub_self,<-U];simp[tkG,Tk.raw]
   |es s=>
    have hs:=H.2.1
    have W:raw=A++92::42::(s++tkB suf):=by rw[E];simp[Tk.B]
    have r2:raw=(A++ [92,42])++(s++tkB suf):=by rw[W];simp
    have l2:(A++ [92,42]).length=A.length+2:=by simp
    have b8:(Tk.es s).B.length=s.length+2:=by simp[Tk.B]
    rw[b8] at c1 y
    have c2:raw[A.length]'(by omega)=92:=by
     have:raw[A.length]? =some 92:=by rw[W,lH0 (lZ0 _),lW1];rfl
     rw[lI0 (by omega)] at this
     exact Option.some.inj this
    refine AtD.leaf (st:=A.length) (en:=A.length+2) (t:= .esc [42]) O (by omega) a6 I V (f:=iX) (by rw[c2];rfl) (L0:= []) (by simp) (λp _ _=>by rw[W];exact yx (by decide) (by rw[<-W];omega)) (by omega) (by omega) (by simp) ?_
    rw[mf ts a7 (by omega)]
    have c3:(Inl.esc [42]).isOpen=false:=rfl
    rw[c3]
    show AtD X σ b p0 raw L (A.length+2) (A.length+2) _ [] lo
    have b5:=AtD.word (X:=X) (σ:=σ) (p0:=p0) (e:=A.length+2) (ts:=ts++fl (sub raw e A.length)++ [.esc [42]]) (opens:= []) (lo:=lo) O r2 hs.by_ a6 I V
    rw[l2] at b5
    refine b5 ?_
    have c4:sub raw (A.length+2) (A.length+2+s.length)=s:=by
     have:=pV (A++ [92,42]) s (tkB suf)
     rw[<-r2,l2] at this
     exact this
    have:=b9 2 (A++(Tk.es s).B) (A.length+2) (ts++fl (sub raw e A.length)++ [.esc [42]]) lo b7 H.2.2 (by simp) (λ_=>by obtain⟨m,d,e,hd⟩:=hs.last;exact⟨A++92::42::m,d,by rw[e];simp[Tk.B],hd⟩) (by rw[y];omega) (by rw[y];simp;omega) (by rw[y];omega) ?_
    ·rw[y,show A.length+(s.length+2)=A.length+2+s.length by omega] at this;exact this
    ·rw[y,show A.length+(s.length+2)=A.length+2+s.length by omega,c4,<-U];simp[tkG]
 exact f0 l 0 [] 0 [] 0 (by rw[<-hr];rfl) b3 (by simp) (by simp) (by simp) (by simp) (by simp) (by simp[sub])
def fD (R:EP)(b6:OA)(w:World):Prop:=
 tk w λH=>
 aA b6 λa2=>
 aA b6 λa3=>
 ∃V b3 c1,H.cell? (a2.add 4)=some (hT V b3 c1)/\
 ∃c2 g b7,H.cell? (a3.add 4)=some (hT c2 g b7)/\
 0<=(i64.wrap ((g:Int) - 1))/\(i64.wrap ((g:Int) - 1))<(b3:Int)/\
 aA V λy=>
 tk H λE=>
 ∃b5 a7 b4,E.cell? ((y.add (Int.toNat (i64.wrap ((g:Int) - 1))*4)).add 1)=some (hT b5 a7 b4)/\
 ∃c3 W b9,E.cell? ((y.add (Int.toNat (i64.wrap ((g:Int) - 1))*4)).add 1)=some (hT c3 W b9)/\
 ∃U O I,(∀w,(Instr.sliceAt fQ (hT b5 a7 b4) none (some (hY (i64.wrap ((W:Int) - 1)))) none).run P w= .ok (hT U O I) w)/\
 stV E (((y.add (Int.toNat (i64.wrap ((g:Int) - 1))*4)).add 1).add 0) (hT U O I) λb8=>
 R (hQ (.tuple #[])) b8
theorem fD.sound {R x0 w}(h:fD R x0 w):callE P iW #[kT x0] R w:=
 aH [(2,.dr (rpN [0,3,6,12,15,18,10,22,24,27,30,33])),(3,.dr (rpN [0,3,6,9,15,18,21,13,25,27,30,33,36,39,44]))] Tryz.func196 Tryz.call196 h
def jo (R:EP)(b3:OA)(w:World):Prop:=
 tk w λH=>
 aA b3 λa2=>
 aA b3 λa3=>
 ∃I O b6,H.cell? (a2.add 4)=some (hT I O b6)/\
 ∃b7 g b4,H.cell? (a3.add 4)=some (hT b7 g b4)/\
 0<=(i64.wrap ((g:Int) - 1))/\(i64.wrap ((g:Int) - 1))<(O:Int)/\
 aA I λa7=>
 tk H λE=>
 ∃U W b9,E.cell? ((a7.add (Int.toNat (i64.wrap ((g:Int) - 1))*4)).add 1)=some (hT U W b9)/\
 ∃b8 y b5,E.cell? ((a7.add (Int.toNat (i64.wrap ((g:Int) - 1))*4)).add 1)=some (hT b8 y b5)/\
 0<=(i64.wrap ((y:Int) - 1))/\(i64.wrap ((y:Int) - 1))<(W:Int)/\
 aA U λa10=>
 ∃(V:Value),E.cell? (a10.add (Int.toNat (i64.wrap ((y:Int) - 1))*1))=some V/\
 R (hQ V) E
theorem jo.sound {R x0 w}(h:jo R x0 w):callE P lE #[kT x0] R w:=
 aH [(5,.dr (rpN [0,3,6,12,15,18,10,22,24,27,30,33])),(11,.dr (rpN [0,3,6,12,15,18,10,22,24,27,30,34,36]))] Tryz.func195 Tryz.call195 h
def yu (R:EP)(y:OA)(w:World):Prop:=
 aA y λa1=>
 ∃g,w.cell? (a1.add 2)=some (hX g)/\
 R (hQ (hX g)) w
theorem yu.sound {R x0 w}(h:yu R x0 w):callE P B8 #[kT x0] R w:=
 cD Tryz.func52 Tryz.call52 h
def f9 (R:EP)(E:OA)(d1:Value)(w:World):Prop:=
 aA E λa1=>
 ∃c1,w.cell? (a1.add 5)=some (hY c1)/\
 callE P bj #[kT E,hY (i64.wrap (c1+1))] (λe c8=>e= hQ (.tuple #[])/\
 tk c8 λy=>
 aA E λc9=>
 aA E λd0=>
 ∃b9 b8 c4,y.cell? (c9.add 4)=some (hT b9 b8 c4)/\
 ∃c5 g c3,y.cell? (d0.add 4)=some (hT c5 g c3)/\
 0<=(i64.wrap ((g:Int) - 1))/\(i64.wrap ((g:Int) - 1))<(b8:Int)/\
 aA b9 λa10=>
 ∃O U b4,y.cell? ((a10.add (Int.toNat (i64.wrap ((g:Int) - 1))*4)).add 1)=some (hT O U b4)/\
 ∃b3 I,∃H b7,(Instr.buildSlice fQ 1 #[(0,d1)]).run P y= .ok (hT b3 I H) b7/\
 ∃b5 V,∃W b6,(Builtin.append_ #[fQ,fQ] fQ #[hT O U b4,hT b3 I H]).run P b7= .ok (hT b5 V W) b6/\
 stV b6 (((a10.add (Int.toNat (i64.wrap ((g:Int) - 1))*4)).add 1).add 0) (hT b5 V W) λc2=>
 R (hQ (.tuple #[])) c2) w
theorem f9.sound {R x0 x1 w}(h:f9 R x0 x1 w):callE P dL #[kT x0,x1] R w:=
 aH [(5,.dr (rpN [0,3,6,12,15,18,10,22,24,27,30,33]))] Tryz.func191 Tryz.call191 h

structure LnR (l:Ln) (s:List UInt8):Prop where
 ok:l.ok
 sp:l.sp=0
 tx:l.text.drop l.i=s
theorem LnR.has {l:Ln}{c:UInt8}{r:List UInt8}(h:LnR l (c::r)):l.has c r:=⟨h.ok,h.sp,h.tx⟩
theorem LnR.skip {l:Ln}{a s:List UInt8}(h:LnR l (a++s)):LnR {l with i:=l.i+a.length} s:=by
 have E:=congrArg List.length h.tx
 rw[lN1,lA0] at E
 have H:=h.ok.i;have I:=h.ok.tab;have y:=h.ok.len;have g:=h.ok.sp
 refine⟨⟨by show l.i+a.length<=l.text.length;omega,by show l.tab<=l.i+a.length;omega,y,g⟩,h.sp,?_⟩
 show l.text.drop (l.i+a.length)=s
 rw[<-lK5,h.tx,lB4]
theorem LnR.quote {l:Ln}{s:List UInt8}(h:LnR l (62::32::s)):l.quote=some {l with i:=l.i+2}/\LnR {l with i:=l.i+2} s:=by
 refine⟨?_,LnR.skip (a:= [62,32]) h⟩
 have g:=h.has
 unfold Ln.quote
 rw[g.lead (by decide) 2,g.trimC,if_pos rfl]
 show some (Ln.lead 1 true _)=_
 have y:({l with i:=l.i+1}:Ln).has 32 s:=(LnR.skip (a:= [62]) h).has
 unfold Ln.lead
 rw[y.sp1]
 rfl
theorem LnR.tsPad {mn:Nat}{e:Bool}{s:List UInt8}: ∀(j n:Nat) {l:Ln},LnR l (hN j 32++s)->l.tsGo mn e j n=some {l with i:=l.i+j}
 |0,n,l,h=>by simp[Ln.tsGo]
 |j+1,n,l,h=>by
  have g:LnR l (32::(hN j 32++s)):=by rw[lZ1] at h;exact h
  have E:=g.has
  have U:=E.lt
  have y:=E.get
  have H:=LnR.tsPad (mn:=mn) (e:=e) (s:=s) j (n+1) (LnR.skip (a:= [32]) g)
  have O:=h.sp
  have I:l.tsGo mn e (j+1) n=({l with i:=l.i+ [(32:UInt8)].length}:Ln).tsGo mn e j (n+1):=by
   rw[Ln.tsGo,if_neg (by omega),if_neg (by omega),if_neg (by rw[y];decide),if_pos y]
   rfl
  rw[I,H]
  show some ({l with i:=l.i+1+j}:Ln)=some {l with i:=l.i+(j+1)}
  rw[lU3,lC3]
theorem LnR.pad {l:Ln}{w:Nat}{s:List UInt8}(h:LnR l (hN w 32++s)):l.trimSp w w true=some {l with i:=l.i+w}/\LnR {l with i:=l.i+w} s:=by
 refine⟨LnR.tsPad w 0 h,?_⟩
 have:=LnR.skip h
 rw[lG2] at this
 exact this
theorem LnR.tsEnd {mn:Nat}: ∀(j n:Nat) {l:Ln},l.sp=0->l.text.length<=l.i->l.tsGo mn true j n=some l
 |0,n,l,_,_=>by simp[Ln.tsGo]
 |j+1,n,l,h1,h2=>by
  rw[Ln.tsGo,if_neg (by omega),if_pos ⟨h2,rfl⟩]
  exact LnR.tsEnd j (n+1) h1 h2
theorem LnR.lenNil {l:Ln}(h:LnR l []):l.text.length<=l.i:=by
 have:=congrArg List.length h.tx
 simp at this;omega
theorem LnR.padEnd {l:Ln}{w:Nat}(h:LnR l []):l.trimSp w w true=some l:=LnR.tsEnd w 0 h.sp h.lenNil
theorem LnR.padNo {l:Ln}{w:Nat}{c:UInt8}{r:List UInt8}(h:LnR l (c::r))(hc:cM c=false)(g:1<=w):l.trimSp w w true=none:=by
 obtain⟨k,rfl⟩: ∃k,w=k+1:=⟨w - 1,by omega⟩
 unfold Ln.trimSp
 rw[h.has.tsGo hc,if_neg (by omega)]
inductive CX where
 |q
 |i (w:Nat)
def CX.pre:CX->List UInt8->List UInt8
 | .q,s=>62::32::s
 | .i w,s=>if s= [] then [] else hN w 32++s
def ctx:List CX->List UInt8->List UInt8
 | [],s=>s
 |c::cs,s=>c.pre (ctx cs s)
theorem nT (a b:List CX)(s:List UInt8):ctx (a++b) s=ctx a (ctx b s):=by
 induction a with
 |nil=>rfl
 |cons c a g=>show c.pre (ctx (a++b) s)=c.pre (ctx a (ctx b s));rw[g]
inductive FrX (m:Nat):List CX->List Bk->Prop where
 |nil:FrX m [] []
 |q {cs:List CX} {fs:List Bk} {f:Bk}:f.isQuote->f.ob.e=m->FrX m cs fs->FrX m (.q::cs) (f::fs)
 |i {cs:List CX} {fs:List Bk} {f g:Bk} {lb w:Nat} {bul num:Int} {it:OA}:f.isList lb bul num it->ItemOf it g lb w true->1<=w/\w<100->g.ob.e=m->FrX m cs fs->FrX m (.i w::cs) (f::g::fs)
inductive FrS:List CX->List Bk->Prop where
 |nil:FrS [] []
 |q {cs:List CX} {fs:List Bk} {f:Bk}:f.isQuote->FrS cs fs->FrS (.q::cs) (f::fs)
 |i {cs:List CX} {fs:List Bk} {f g:Bk} {lb w:Nat} {bul num:Int} {it:OA}:f.isList lb bul num it->ItemOf it g lb w true->1<=w/\w<100->FrS cs fs->FrS (.i w::cs) (f::g::fs)
theorem FrX.toS {m:Nat}{a:List CX}{fs:List Bk}(h:FrX m a fs):FrS a fs:=by
 induction h with
 |nil=>exact .nil
 |q x _ _ g=>exact .q x g
 |i x E z _ _ g=>exact .i x E z g
theorem FrS.len {a:List CX}{fs:List Bk}(h:FrS a fs):a.length<=fs.length/\fs.length<=2*a.length:=by
 induction h with
 |nil=>simp
 |q x _ g=>simp;omega
 |i x E z _ g=>simp;omega
theorem FrS.split {b:List CX}: ∀ {a:List CX} {fs:List Bk},FrS (a++b) fs-> ∃gs g,fs=gs++g/\FrS a gs/\FrS b g
 | [],fs,h=>⟨[],fs,rfl,.nil,h⟩
 |c::a,fs,h=>by
  cases h with
  |q x E=>
   obtain⟨gs,g,rfl,H,I⟩:=FrS.split E
   exact⟨_::gs,g,rfl,.q x H,I⟩
  |i x O z E=>
   obtain⟨gs,g,rfl,H,I⟩:=FrS.split E
   exact⟨_::_::gs,g,rfl,.i x O z H,I⟩
theorem FrS.append {a b:List CX}{fs gs:List Bk}(h:FrS a fs)(E:FrS b gs):FrS (a++b) (fs++gs):=by
 induction h with
 |nil=>exact E
 |q x _ g=>exact .q x g
 |i x H z _ g=>exact .i x H z g
theorem FrX.append {m:Nat}{a b:List CX}{fs gs:List Bk}(h:FrX m a fs)(H:FrX m b gs):FrX m (a++b) (fs++gs):=by
 induction h with
 |nil=>exact H
 |q x E _ g=>exact .q x E g
 |i x E z v _ g=>exact .i x E z v g
theorem FrX.len {m:Nat}{a:List CX}{fs:List Bk}(h:FrX m a fs):a.length<=fs.length/\fs.length<=2*a.length:=by
 induction h with
 |nil=>simp
 |q x E _ g=>simp;omega
 |i x E z v _ g=>simp;omega
def Bk.setE (f:Bk)(m:Nat):Bk:= {f with ob:=f.ob.setE m}
theorem Bk.setE_sim (f:Bk){m:Nat}(g:m<1000000000):f.sim (f.setE m):=⟨⟨m,rfl⟩,rfl,rfl,rfl,g⟩
theorem u7 {X:OA->Nat->WP}(c2: ∀a7 W w,aj.bl1 R X a7 W w->X a7 W w){b b1:Nat}{p:PS}{gs rest:List Bk}{f:Bk}{lf:Leaf}{l l2:Ln}(h:DocC σ b (l.at b1::L) (gs++f::rest) lf p w)(hd:p.depth+1=gs.length)(d2:0<gs.length/\gs.length<1000000)(d1:l.ok)(hb:l.blank=false)(b8:p.lineno<1000000000)(c4: ∀(I:Ending->World->Prop) K w,(∀y∈gs++f::rest,∀c∈y.own,c∈K)->Sat σ w K->(∀w,Sat σ w K->I (hQ (.tuple #[l2.val,hV true])) w)->cY P (callMethod f.ob.bd "pub-paratext/pub/rscmarkdown.extend" #[kT (kE b),l.val]) I w)
 (b5: ∀w,DocC σ b (l2.at b1::L) (gs++f.setE p.lineno::rest) lf {p with depth:=(gs.length:Nat)} w->X (kE b) b1 w):X (kE b) b1 w:=by
 obtain⟨M,b3,H,a6,hs,ht,O,c3,h⟩:=h
 have b7: ∀y∈gs++f::rest,∀c∈y.own,c∈aM (gs++f::rest):=by
  intro y E c hc
  unfold aM
  exact lS2.2 ⟨y,E,by unfold Bk.mem;simp[hc]⟩
 have b6:p.depth=((gs.length - 1:Nat):Int):=by omega
 have b9:((gs++f::rest).map Bk.ob++H)[gs.length - 1+1]? =some f.ob:=by
  rw[show gs.length - 1+1=gs.length by omega,lM0 (by simp),lF2]
  simp
 have h:Sat σ w (l.at b1::(p.at b::M++(b3++(aM (gs++f::rest)++(a6++L))))):=h.re
 refine Cj (l2:=l2) c2 h hs b6 (by omega) b9 d1 hb (λI b0 w h c9=>?_) λw c5 V h=>?_
 ·exact c4 I _ w (λy E c hc=>by simp[b7 y E c hc]) h c9
 ·have c1:((gs++f::rest).map Bk.ob++H).set (gs.length - 1+1) (f.ob.setE p.lineno)=(gs++f.setE p.lineno::rest).map Bk.ob++H:=by
   rw[show gs.length - 1+1=gs.length by omega,lV4 _ _ (by simp),lV0,lO1 _ _ (by simp),lS0,lW1]
   simp[Bk.setE]
  have b4:((gs.length - 1:Nat):Int)+1=(gs.length:Nat):=by omega
  rw[c1,b4] at V
  rw[b4] at h
  have U:Sims (gs++f::rest) (gs++f.setE p.lineno::rest):=Sims.append (Sims.refl λy E=>(O y (by simp[E])).2.2.2) (.cons (f.setE_sim b8) (Sims.refl λy E=>(O y (by simp[E])).2.2.2))
  obtain⟨c8,d0⟩:=U.mem
  refine b5 w ⟨c5,b3,H,a6,V,?_,U.ok O,c3,?_⟩
  ·rw[d0];exact ht.of rfl rfl rfl
  ·rw[c8];exact h.re

theorem vn (w:Nat)(s:List UInt8):(hN w 32++s).all cM=s.all cM:=by
 rw[lD5]
 have:(hN w (32:UInt8)).all cM=true:=by
  rw[lD2];intro c hc;rw[List.eq_of_mem_replicate hc];rfl
 rw[this,lP5]
theorem ub {p:PS}{k:Int}(h:k=p.depth):({p with depth:=k}:PS)=p:=by rw[h]
theorem F7 {X:OA->Nat->WP}(b6: ∀d0 c8 w,aj.bl1 R X d0 c8 w->X d0 c8 w){b b1:Nat}{s:List UInt8}{lf:Leaf}{rest:List Bk}:
 ∀(cs:List CX) (gs fs:List Bk) (p:PS) (l:Ln) (w:World),FrS cs fs->DocC σ b (l.at b1::L) (gs++(fs++rest)) lf p w->p.depth+1=gs.length->0<gs.length/\gs.length+2*cs.length<1000000->LnR l (ctx cs s)->
  (∀a c I,cs=a++c::I->(ctx (c::I) s).all cM=false)->p.lineno<1000000000->
  (∀w y l2,Sims fs y->FrX p.lineno cs y->LnR l2 s->l2.text=l.text->DocC σ b (l2.at b1::L) (gs++(y++rest)) lf {p with depth:=((gs.length+fs.length:Nat):Int) - 1} w->X (kE b) b1 w)->X (kE b) b1 w:=by
 intro cs
 induction cs with
 |nil=>
  intro gs fs p l w b8 h hd d1 E a6 H W
  cases b8
  refine W w [] l .nil .nil E rfl ?_
  rw[ub (by simp;omega)]
  exact h
 |cons c cs d2=>
  intro gs fs p l w b8 h hd d1 E a6 H W
  have hb:l.blank=false:=by
   have:=a6 [] c cs rfl
   unfold Ln.blank;rw[E.tx];exact this
  have b9: ∀a b3 I,cs=a++b3::I->(ctx (b3::I) s).all cM=false:=λa b3 I e=>a6 (c::a) b3 I (by rw[e];rfl)
  simp only[lF0] at d1
  cases b8 with
  | @q _ y f hq hF'=>
   have E:LnR l (62::32::ctx cs s):=E
   obtain⟨b5,O⟩:=E.quote
   obtain⟨e3,c5,e0⟩:=hq
   refine u7 (l2:= {l with i:=l.i+2}) (rest:=y++rest) b6 (by simpa using h) hd ⟨by omega,by omega⟩ E.ok hb H (λd3 K w _ h V=>?_) λw h=>?_
   ·rw[c5]
    refine bm mi ?_
    exact rS h E.ok (by rw[b5];exact⟨rfl,rfl⟩) V
   ·have h:DocC σ b (({l with i:=l.i+2}:Ln).at b1::L) ((gs++ [f.setE p.lineno])++(y++rest)) lf {p with depth:=(gs.length:Nat)} w:=by simpa using h
    refine d2 (gs++ [f.setE p.lineno]) y _ _ w hF' h (by simp) (by simp;omega) O b9 H λw b4 l2 k1 k2 k3 k4 h=>?_
    refine W w (f.setE p.lineno::b4) l2 (.cons (f.setE_sim H) k1) (.q ((f.setE_sim H).quote ⟨e3,c5,e0⟩) rfl k2) k3 k4 ?_
    have e:(((gs++ [f.setE p.lineno]).length+y.length:Nat):Int) - 1=((gs.length+(f::y).length:Nat):Int) - 1:=by simp;omega
    rw[e] at h
    simpa using h
  | @i _ y f g lb wd bul num it hf hg' hw hF'=>
   have e4:=E
   have U:=a6 [] (.i wd) cs rfl
   have d5:ctx cs s≠ []:=by
    intro e2
    have:(ctx (.i wd::cs) s)= []:=by show (CX.i wd).pre (ctx cs s)= [];rw[e2];rfl
    rw[this] at U;cases U
   have d4:ctx (.i wd::cs) s=hN wd 32++ctx cs s:=by
    show (if ctx cs s= [] then [] else hN wd 32++ctx cs s)=_
    rw[if_neg d5]
   rw[d4] at E U
   rw[vn] at U
   obtain⟨b5,O⟩:=E.pad
   obtain⟨ib,c3,c2,b7⟩:=hg'
   obtain⟨c4,c9⟩:=hf
   refine u7 (l2:= {l with i:=l.i+wd}) (rest:=g::(y++rest)) b6 (by simpa using h) hd ⟨by omega,by omega⟩ E.ok hb H (λd3 K w a7 h V=>?_) λw h=>?_
   ·rw[c4]
    refine bm gl ?_
    refine lA (ib:=ib) (lb:=lb) (n:=wd) (hv:=true) (bul:=bul) (num:=num) (lo:=false) (td:= .nilFunc) h E.ok (by omega) ?_ ?_ (by rw[b5];exact⟨rfl,rfl⟩) V
    ·rw[<-c3];exact a7 f (by simp) _ (by rw[c9];exact .head _)
    ·exact a7 g (by simp) _ (by rw[b7];exact .head _)
   have c1:({l with i:=l.i+wd}:Ln).blank=false:=by unfold Ln.blank;rw[O.tx];exact U
   have h:DocC σ b (({l with i:=l.i+wd}:Ln).at b1::L) ((gs++ [f.setE p.lineno])++g::(y++rest)) lf {p with depth:=(gs.length:Nat)} w:=by simpa using h
   refine u7 (l2:= {l with i:=l.i+wd}) (rest:=y++rest) b6 h (by simp) ⟨by simp,by simp;omega⟩ O.ok c1 H (λd3 K w a7 h V=>?_) λw h=>?_
   ·rw[c2]
    refine bm kg ?_
    exact wy h O.ok c1 (a7 g (by simp) _ (by rw[b7];exact .head _)) V
   have h:DocC σ b (({l with i:=l.i+wd}:Ln).at b1::L) ((gs++ [f.setE p.lineno,g.setE p.lineno])++(y++rest)) lf {p with depth:=((gs++ [f.setE p.lineno]).length:Nat)} w:=by simpa using h
   refine d2 (gs++ [f.setE p.lineno,g.setE p.lineno]) y _ _ w hF' h (by simp;omega) (by simp;omega) O b9 H λw b4 l2 k1 k2 k3 k4 h=>?_
   refine W w (f.setE p.lineno::g.setE p.lineno::b4) l2 (.cons (f.setE_sim H) (.cons (g.setE_sim H) k1)) (.i ((f.setE_sim H).list ⟨c4,c9⟩) ((g.setE_sim H).itemOf ⟨ib,c3,c2,b7⟩) hw rfl k2) k3 k4 ?_
   have e:(((gs++ [f.setE p.lineno,g.setE p.lineno]).length+y.length:Nat):Int) - 1=((gs.length+(f::g::y).length:Nat):Int) - 1:=by simp;omega
   rw[e] at h
   simpa using h
theorem rC {X:OA->Nat->WP}(b6: ∀V O w,aj.bl1 R X V O w->X V O w){b b1:Nat}{p:PS}{gs rest:List Bk}{f:Bk}{lf:Leaf}{l l2:Ln}(h:DocC σ b (l.at b1::L) (gs++f::rest) lf p w)(hd:p.depth+1=gs.length)(c4:0<gs.length/\gs.length<1000000)(c2:l.ok)(hb:l.blank=true)(b9: ∀(E:Ending->World->Prop) K w,(∀y∈gs++f::rest,∀c∈y.own,c∈K)->Sat σ w K->(∀w,Sat σ w K->E (hQ (.tuple #[l2.val,hV true])) w)->cY P (callMethod f.ob.bd "pub-paratext/pub/rscmarkdown.extend" #[kT (kE b),l.val]) E w)
 (a7: ∀w,DocC σ b (l2.at b1::L) (gs++f::rest) lf {p with depth:=(gs.length:Nat)} w->X (kE b) b1 w):X (kE b) b1 w:=by
 obtain⟨M,W,I,U,hs,ht,a6,b7,h⟩:=h
 have b4: ∀y∈gs++f::rest,∀c∈y.own,c∈aM (gs++f::rest):=by
  intro y H c hc
  unfold aM
  exact lS2.2 ⟨y,H,by unfold Bk.mem;simp[hc]⟩
 have b3:p.depth=((gs.length - 1:Nat):Int):=by omega
 have b5:((gs++f::rest).map Bk.ob++I)[gs.length - 1+1]? =some f.ob:=by
  rw[show gs.length - 1+1=gs.length by omega,lM0 (by simp),lF2]
  simp
 have h:Sat σ w (l.at b1::(p.at b::M++(W++(aM (gs++f::rest)++(U++L))))):=h.re
 refine u6 (l2:=l2) (ok:=true) b6 h hs b3 (by omega) b5 c2 (λE b0 w h c1=>?_) (.inl hb) (λ_ w h=>?_) (λb8=>absurd b8 (by decide))
 ·exact b9 E _ w (λy H c hc=>by simp[b4 y H c hc]) h c1
 ·have c3:((gs.length - 1:Nat):Int)+1=(gs.length:Nat):=by omega
  rw[c3] at h
  exact a7 w ⟨M,W,I,U,hs.of rfl rfl rfl,ht.of rfl rfl rfl,a6,b7,h.re⟩
theorem walkB {X:OA->Nat->WP}(W: ∀b3 a7 w,aj.bl1 R X b3 a7 w->X b3 a7 w){b b1:Nat}{lf:Leaf}{rest:List Bk}:
 ∀(cs:List CX) (gs fs:List Bk) (p:PS) (l:Ln) (w:World),FrS cs fs->(∀c∈cs,c≠ .q)->DocC σ b (l.at b1::L) (gs++(fs++rest)) lf p w->p.depth+1=gs.length->0<gs.length/\gs.length+2*cs.length<1000000->LnR l []->
  (∀w l2,LnR l2 []->DocC σ b (l2.at b1::L) (gs++(fs++rest)) lf {p with depth:=((gs.length+fs.length:Nat):Int) - 1} w->X (kE b) b1 w)->X (kE b) b1 w:=by
 intro cs
 induction cs with
 |nil=>
  intro gs fs p l w U H h hd a6 y I
  cases U
  refine I w l y ?_
  rw[ub (by simp;omega)]
  exact h
 |cons c cs b5=>
  intro gs fs p l w U H h hd a6 y I
  have hb:l.blank=true:=by unfold Ln.blank;rw[y.tx];rfl
  simp only[lF0] at a6
  cases U with
  |q _ _=>exact absurd rfl (H .q (.head _))
  | @i _ fs' f g lb wd bul num it hf hg' hw hF'=>
   obtain⟨ib,b7,b4,V⟩:=hg'
   obtain⟨b9,b6⟩:=hf
   refine rC (l2:=l) (rest:=g::(fs'++rest)) W (by simpa using h) hd ⟨by omega,by omega⟩ y.ok hb (λb8 K w E h O=>?_) λw h=>?_
   ·rw[b9]
    refine bm gl ?_
    refine lA (ib:=ib) (lb:=lb) (n:=wd) (hv:=true) (bul:=bul) (num:=num) (lo:=false) (td:= .nilFunc) h y.ok (by omega) ?_ ?_ (by rw[y.padEnd];exact⟨rfl,rfl⟩) O
    ·rw[<-b7];exact E f (by simp) _ (by rw[b6];exact .head _)
    ·exact E g (by simp) _ (by rw[V];exact .head _)
   have h:DocC σ b (l.at b1::L) ((gs++ [f])++g::(fs'++rest)) lf {p with depth:=(gs.length:Nat)} w:=by simpa using h
   refine rC (l2:=Ln.zero) (rest:=fs'++rest) W h (by simp) ⟨by simp,by simp;omega⟩ y.ok hb (λb8 K w E h O=>?_) λw h=>?_
   ·rw[b4]
    refine bm kg ?_
    exact pm h y.ok hb (E g (by simp) _ (by rw[V];exact .head _)) O
   have h:DocC σ b (Ln.zero.at b1::L) ((gs++ [f,g])++(fs'++rest)) lf {p with depth:=((gs++ [f]).length:Nat)} w:=by simpa using h
   refine b5 (gs++ [f,g]) fs' _ _ w hF' (λc hc=>H c (.tail _ hc)) h (by simp;omega) (by simp;omega) ⟨⟨by decide,by decide,by decide,by decide⟩,rfl,rfl⟩ λw l2 k3 h=>?_
   refine I w l2 k3 ?_
   have e:(((gs++ [f,g]).length+fs'.length:Nat):Int) - 1=((gs.length+(f::g::fs').length:Nat):Int) - 1:=by simp;omega
   rw[e] at h
   simpa using h

def oH (s:Nat)(ls:List (List UInt8)):Leaf:= .other λob M=> ∃g e,ob= [jO g s e]/\rg g ls M/\s<1000000000/\ls≠ []/\ls.length<1048570
theorem uc {b s:Nat}{gs:List Bk}{par:Bk}{p:PS}{ls:List (List UInt8)}(h:DocC σ b L (gs++ [par]) (oH s ls) p w)(c8:Leaf.finN (.para ls))(d5:par.D.length<99999)(d4:(txF (gs++ [par])).length<100000)(c5: ∀w (p':PS) H nb t x,p'.base=p.base->p'.depth=p.depth->p'.lineno=p.lineno->H.like par->H.D=par.D++ [kf nb t s (s+ls.length - 1) (bF [10] ls)]->s<1000000000->ls.length<1048570->DocC σ b L (gs++ [H]) .none p' w->R (hQ x) w):
 callE P aI #[kT (kE b)] R w:=by
 obtain⟨M,d0,d2,c9,hs,ht,W,⟨b4,e,rfl,d1,a6,c3,b9⟩,h⟩:=h
 obtain⟨b6,c4,c1⟩:=c8
 have hs:Stk p (gs.map Bk.ob++ [par.ob]++ [jO b4 s e]) M:=by simpa using hs
 obtain⟨V,b5⟩:=W par (by simp)
 have d3:par.ob.n=par.D.length:=by have:=V.1;simp at this;omega
 rw[bh,dy] at h
 have h:Sat σ w (p.at b::M++(par.IM++(d0++(c9++(aM gs++(par.own++(cX par.D++(txc par.D++L)))))))):=h.re
 refine wY (ob:=gs.map Bk.ob) (par:=par.ob) (o:=jO b4 s e) h hs rfl V (by omega) ht (by simp;omega) d1 c3 (by omega) rfl b6 c4 c1 (by exact a6) λw p' U E O t nb a7 b3 x I b8 b7 c2 h=>?_
 refine c5 w p' ⟨{par.ob with q:=a7,n:=par.ob.n+1,c:=b3},par.own,par.D++ [kf nb t s (s+ls.length - 1) (bF [10] ls)],E⟩ nb t x (by rw[I];rfl) (by rw[I]) (by rw[I]) ⟨rfl,rfl,rfl,rfl⟩ rfl a6 b9 ?_
 refine⟨U,O,[],[],?_,?_,?_,⟨rfl,rfl⟩,?_⟩
 ·rw[lV0,lG0];exact b8
 ·have e:txF (gs++ [⟨{par.ob with q:=a7,n:=par.ob.n+1,c:=b3},par.own,par.D++ [kf nb t s (s+ls.length - 1) (bF [10] ls)],E⟩])=txF (gs++ [par])++ [⟨t,s,s+ls.length - 1,bF [10] ls⟩]:=by
   rw[bD,bD,dH,dH,jz,lD0];rfl
  rw[e,lV0];exact b7
 ·intro g y
  rcases lO0.1 y with y|y
  ·exact W g (by simp[y])
  ·obtain rfl:=lQ0.1 y
   exact⟨by rw[lV0];exact c2,by simp;omega,b5.2⟩
 ·rw[bh,dy,lx,nE]
  have h:Sat σ w (p'.at b::U++(E++(O++(kY nb s (s+ls.length - 1) t::fu t s (s+ls.length - 1) none 0 0 (bF [10] ls)::(aM gs++(par.own++(cX par.D++(txc par.D++L)))))))):=h
  show Sat σ w (p'.at b::U++(O++(aM gs++(E++(par.own++((cX par.D++ [kY nb s (s+ls.length - 1) t])++(txc par.D++ [fu t s (s+ls.length - 1) none 0 0 (bF [10] ls)]))))++([]++L))))
  exact h.re
def IN.tgt:IN->IN
 | .mk h ks=>if h.kind=6 then .mk {h with tight:=true} ks else .mk h ks
def vw (d:DB):Nat × Nat:=
 match d.own with
 |(_,.cells cs _)::_=>match cs.toList with
  | .int _ a:: .int _ e::_=>(a.toNat,e.toNat)
  |_=>(0,0)
 |_=>(0,0)
structure TD (G:List UInt8->List Inl) (op:Opt) (d:DB) (x:IN):Prop where
 tree:d.tree G x
 treeT:(du d).tree G x.tgt
 kind:d.kindOK
 pos:d.posIs x.h.s x.h.e/\vw d=(x.h.s,x.h.e)/\x.h.s<1000000000/\x.h.e<2000000000
 txs: ∀t∈d.txs,ju none [] op t.raw (G t.raw)
inductive TDs (G:List UInt8->List Inl) (op:Opt):List DB->List IN->Prop where
 |nil:TDs G op [] []
 |cons {d:DB} {x:IN} {D:List DB} {xs:List IN}:TD G op d x->TDs G op D xs->TDs G op (d::D) (x::xs)
theorem TDs.append {D y:List DB}{xs g:List IN}(H:TDs G op D xs)(I:TDs G op y g):TDs G op (D++y) (xs++g):=by
 induction H with
 |nil=>exact I
 |cons h _ O=>exact .cons h O
theorem TDs.trees {D:List DB}{xs:List IN}(h:TDs G op D xs):oR G D xs:=by
 induction h with
 |nil=>exact .nil
 |cons h _ g=>exact .cons h.tree g
theorem TDs.treesT {D:List DB}{xs:List IN}(h:TDs G op D xs):oR G (D.map du) (xs.map IN.tgt):=by
 induction h with
 |nil=>exact .nil
 |cons h _ g=>exact .cons h.treeT g
theorem TDs.len {D:List DB}{xs:List IN}(h:TDs G op D xs):xs.length=D.length:=by
 induction h with
 |nil=>rfl
 |cons h _ g=>simp[g]
theorem TDs.txs {D:List DB}{xs:List IN}(h:TDs G op D xs): ∀t∈cl D,ju none [] op t.raw (G t.raw):=by
 induction h with
 |nil=>intro t ht;simp[cl] at ht
 | @cons d x D xs h _ ih=>
  intro t ht
  have e:cl (d::D)=d.txs++cl D:=by simp[cl]
  rw[e] at ht
  rcases lO0.1 ht with ht|ht
  ·exact h.txs t ht
  ·exact ih t ht
theorem TDs.facts {D:List DB}{xs:List IN}(h:TDs G op D xs): ∀d∈D,d.kindOK/\d.posIs (vw d).1 (vw d).2/\(vw d).1<1000000000/\(vw d).2<2000000000:=by
 induction h with
 |nil=>intro d hd;cases hd
 | @cons d x D xs h _ ih=>
  intro e g
  rcases lW0.1 g with rfl|g
  ·obtain⟨a1,a2,a3,a4⟩:=h.pos
   rw[a2]
   exact⟨h.kind,a1,a3,a4⟩
  ·exact ih e g
def Gz:List IN->Bool
 |x::y::ys=>decide (x.h.e+1<y.h.s)||Gz (y::ys)
 |_=>false
def AH:List IN->Bool
 |x::y::ys=>decide (x.h.e+1<y.h.s)||(Gz x.kids||AH (y::ys))
 | [x]=>Gz x.kids
 | []=>false
theorem TDs.gap {D:List DB}{xs:List IN}(h:TDs G op D xs):C0 vw D=Gz xs:=by
 induction h with
 |nil=>rfl
 | @cons d x D xs h h2 ih=>
  cases h2 with
  |nil=>rfl
  | @cons d2 x2 D2 xs2 k k2=>
   unfold C0 Gz
   rw[ih,h.pos.2.1,k.pos.2.1]
inductive ItR (G:List UInt8->List Inl) (op:Opt):List IT->List IN->Prop where
 |nil:ItR G op [] []
 |cons {i:IT} {xs:List IN} {is:List IT} {ys:List IN}:i.ok->TDs G op i.D xs->ItR G op is ys->ItR G op (i::is) (.mk {kind:=4,width:=i.wd,s:=i.s,e:=i.e} xs::ys)
theorem ItR.append {a b:List IT}{xs g:List IN}(y:ItR G op a xs)(H:ItR G op b g):ItR G op (a++b) (xs++g):=by
 induction y with
 |nil=>exact H
 |cons h k _ E=>exact .cons h k E
theorem ItR.gap {g:List IT}{y:List IN}(h:ItR G op g y):mb vw g=AH y:=by
 induction h with
 |nil=>rfl
 | @cons i xs g y h k h2 ih=>
  cases h2 with
  |nil=>unfold mb AH;exact k.gap
  | @cons i2 xs2 is2 ys2 h' k' h2'=>
   unfold mb AH
   rw[ih,k.gap]
   rfl
theorem ItR.facts {y:List IT}{H:List IN}(h:ItR G op y H): ∀i∈y,i.ok/\ ∀d∈i.D,d.kindOK/\d.posIs (vw d).1 (vw d).2/\(vw d).1<1000000000/\(vw d).2<2000000000:=by
 induction h with
 |nil=>intro d hd;cases hd
 |cons h k _ E=>
  intro e g
  rcases lW0.1 g with rfl|g
  ·exact⟨h,k.facts⟩
  ·exact E e g
theorem ItR.txs {g:List IT}{y:List IN}(h:ItR G op g y): ∀t∈cl (g.map IT.db),ju none [] op t.raw (G t.raw):=by
 induction h with
 |nil=>intro t ht;simp[cl] at ht
 | @cons i xs g y h k _ ih=>
  intro t ht
  have e:cl ((i::g).map IT.db)=cl i.D++cl (g.map IT.db):=by simp[cl,IT.db]
  rw[e] at ht
  rcases lO0.1 ht with ht|ht
  ·exact k.txs t ht
  ·exact ih t ht
theorem ItR.trees {g:List IT}{y:List IN}(h:ItR G op g y):oR G (g.map IT.db) y:=by
 induction h with
 |nil=>exact .nil
 |cons h k _ E=>exact .cons (ww h k.trees) E
def IN.tgtI:IN->IN
 | .mk h ks=> .mk h (ks.map IN.tgt)
theorem ItR.treesT {y g:List IT}(hr:Ret y g): ∀ {E:List IN},ItR G op y E->oR G (g.map IT.db) (E.map IN.tgtI)/\(∀t∈cl (g.map IT.db),t∈cl (y.map IT.db)):=by
 induction hr with
 |nil=>intro E h;cases h;exact⟨.nil,λt h=>h⟩
 | @cons i i' y g h1 h2 h3 ih=>
  intro E h
  cases h with
  | @cons _ xs _ ys' k1 k2 k3=>
   obtain⟨t1,U⟩:=ih k3
   have I:i'.D=i.D.map du:=by rw[h1]
   have ht:=ww (G:=G) h2 (xs:=xs.map IN.tgt) (by rw[I];exact k2.treesT)
   have H:i'.wd=i.wd/\i'.s=i.s/\i'.e=i.e:=by rw[h1];exact⟨rfl,rfl,rfl⟩
   rw[H.1,H.2.1,H.2.2] at ht
   refine⟨.cons ht t1,λt ht=>?_⟩
   have O:cl ((i'::g).map IT.db)=cl i'.D++cl (g.map IT.db):=by simp[cl,IT.db]
   have V:cl ((i::y).map IT.db)=cl i.D++cl (y.map IT.db):=by simp[cl,IT.db]
   have ec:cl i'.D=cl i.D:=by rw[I];exact(p7 λd hd=>(k2.facts d hd).1).2
   rw[O,ec] at ht
   rw[V]
   rcases lO0.1 ht with ht|ht
   ·exact lE1 _ ht
   ·exact lB0 _ (U t ht)
def z0 (s:Nat)(bul:UInt8)(num:Int)(its:List IN):IN:=
 .mk {kind:=3,num:=if bul=46\/bul=41 then num else -1,char:= [bul],loose:=AH its,s:=s,e:=(its.getLast?.map λx=>x.h.e).getD 0} (if AH its then its else its.map IN.tgtI)
theorem E2 {nb y s e:Nat}{raw:List UInt8}(hs:s<1000000000)(E:e<2000000000)(g:lR (G raw))(I:ju none [] op raw (G raw)):TD G op (kf nb y s e raw) (.mk {kind:=6,s:=s,e:=e} (fW (G raw))):=by
 refine⟨Br g,A7 g,.inl ⟨_,_,_,_,_,rfl⟩,⟨jT o9 rfl (.head _),?_,hs,E⟩,λx H=>?_⟩
 ·show ((s:Int).toNat,(e:Int).toNat)=(s,e)
  simp
 ·obtain rfl:=lQ0.1 H
  exact I
theorem yX {nb s e:Nat}{q:OA}{n c:Nat}{IM:List ai}{D:List DB}{xs:List IN}(g:Sl 1 aO q n c (D.map DB.v) IM)(y:n<1000000)(hs:s<1000000000/\e<2000000000)(h:TDs G op D xs):TD G op (nX nb s e q n c IM D) (.mk {kind:=2,s:=s,e:=e} xs):=by
 have ht:(nX nb s e q n c IM D).tree G (.mk {kind:=2,s:=s,e:=e} xs):=zP (nb:=nb) (s:=s) (e:=e) g (by omega) h.trees
 refine⟨ht,?_,.inr ⟨_,_,rfl,by decide⟩,⟨jT vV rfl (.head _),?_,hs⟩,h.txs⟩
 ·rw[d8 (d:=nX nb s e q n c IM D) rfl (by decide)]
  exact ht
 ·show ((s:Int).toNat,(e:Int).toNat)=(s,e)
  simp
theorem ItR.last {g:List IT}{y:List IN}(h:ItR G op g y):y.getLast?.map (λx=>x.h.e)=g.getLast?.map IT.e:=by
 induction h with
 |nil=>rfl
 | @cons i xs g y h k h2 ih=>
  cases h2 with
  |nil=>rfl
  |cons H I E=>rw[lT2,lT2];exact ih
theorem A9 {nb s e:Nat}{bul:UInt8}{num:Int}{q:OA}{n c:Nat}{IM:List ai}{items y:List IT}{g:List IN}(W:Utf8.encode (bul.toNat:Int)=bs [bul])(a6:Sl 1 aO q n c (items.map IT.v) IM)(b3:n<1000000)(hs:s<1000000000/\e<2000000000)(h:ItR G op items g)(ht:Tgh (mb vw items) items y)(V:items.getLast?.map IT.e=some e):TD G op (p8 nb s e (bul.toNat:Int) num (mb vw items) q n c IM y) (z0 s bul num g):=by
 have O:(g.getLast?.map λx=>x.h.e).getD 0=e:=by rw[h.last,V];rfl
 have U:y.map IT.v=items.map IT.v:=by
  rcases ht with ⟨_,rfl⟩|⟨_,hr⟩
  ·rfl
  ·exact hr.vs
 have I:oR G (y.map IT.db) (if AH g then g else g.map IN.tgtI)/\ ∀t∈cl (y.map IT.db),t∈cl (items.map IT.db):=by
  rw[h.gap] at ht
  rcases ht with ⟨H,rfl⟩|⟨H,hr⟩
  ·rw[H];exact⟨h.trees,λt h=>h⟩
  ·rw[H];exact ItR.treesT hr h
 have E:=BJ (nb:=nb) (s:=s) (e:=e) (num:=num) (lo:=mb vw items) W (items:=y) (by rw[U];exact a6) (by omega) I.1
 rw[h.gap] at E
 have a7:z0 s bul num g= .mk {kind:=3,num:=if bul=46\/bul=41 then num else -1,char:= [bul],loose:=AH g,s:=s,e:=e} (if AH g then g else g.map IN.tgtI):=by
  unfold z0;rw[O]
 rw[h.gap,a7]
 refine⟨E,?_,.inr ⟨_,_,rfl,by decide⟩,⟨jT y7 rfl (.head _),?_,hs⟩,λt ht=>h.txs t (I.2 t ht)⟩
 ·rw[d8 (d:=p8 nb s e (bul.toNat:Int) num (AH g) q n c IM y) rfl (by decide)]
  exact E
 ·show ((s:Int).toNat,(e:Int).toNat)=(s,e)
  simp

structure xh (G:List UInt8->List Inl) (op:Opt) (ls:List (List UInt8)):Prop where
 fin:Leaf.finN (.para ls)
 inl:ju none [] op (bF [10] ls) (G (bF [10] ls))
 tame:lR (G (bF [10] ls))
inductive Pd (G:List UInt8->List Inl) (op:Opt):List IN->List Bk->Leaf->Prop where
 |none:Pd G op [] [] .none
 |para {s:Nat} {ls:List (List UInt8)}:xh G op ls->Pd G op [.mk {kind:=6,s:=s,e:=s+ls.length - 1} (fW (G (bF [10] ls)))] [] (oH s ls)
 |quote {f:Bk} {junk:List Bk} {lf:Leaf} {xs ys:List IN}:f.isQuote->TDs G op f.D xs->Pd G op ys junk lf->Pd G op [.mk {kind:=2,s:=f.ob.s,e:=f.ob.e} (xs++ys)] (f::junk) lf
 |list {f g:Bk} {junk:List Bk} {lf:Leaf} {lb wd:Nat} {bul:UInt8} {num:Int} {it:OA} {items:List IT} {ixs xs ys:List IN}:f.isList lb bul.toNat num it->f.D=items.map IT.db->ItR G op items ixs->ItemOf it g lb wd true->1<=wd/\wd<100->Utf8.encode (bul.toNat:Int)=bs [bul]->TDs G op g.D xs->Pd G op ys junk lf->
  Pd G op [z0 f.ob.s bul num (ixs++ [.mk {kind:=4,width:=wd,s:=g.ob.s,e:=g.ob.e} (xs++ys)])] (f::g::junk) lf
def vu (G:List UInt8->List Inl)(op:Opt)(xs:List IN)(junk:List Bk)(lf:Leaf):Prop:=
 ∀(σ:Out) (R:Ending->World->Prop) (L:List ai) (b pb:Nat) (p:PS) (w:World) (X:OA->Int->WP) (gs:List Bk) (top:Bk) (k:Nat),(∀E H w,aG.bl1 R X E H w->X E H w)->op.at pb∈L->p.pz=kE pb->k<=gs.length+1->
  (∀I∈gs++top::junk,I.D.length<=90000)->(txF (gs++top::junk)).length<=90000->DocC σ b L (gs++top::junk) lf p w->
  (∀w (p':PS) y l,p'.base=p.base->p'.depth=p.depth->p'.lineno=p.lineno->y.like top->y.D=top.D++l->TDs G op l xs->(cl l).length<=(txF junk).length+1->DocC σ b L (gs++ [y]) .none p' w->X (kE b) (k:Int) w)->X (kE b) (k:Int) w
theorem Bk.like.refl (f:Bk):f.like f:=⟨rfl,rfl,rfl,rfl⟩
theorem Bk.like.quote {f g:Bk}(h:g.like f)(y:f.isQuote):g.isQuote:=by
 obtain⟨I,E,H⟩:=y
 exact⟨I,h.1.trans E,h.2.2.2.trans H⟩
theorem Bk.like.itemOf {f g:Bk}{lb wd:Nat}{it:OA}{hv:Bool}(h:g.like f)(y:ItemOf it f lb wd hv):ItemOf it g lb wd hv:=by
 obtain⟨ib,I,H,E⟩:=y
 exact⟨ib,I,h.1.trans H,h.2.2.2.trans E⟩
theorem df (a b:List DB):cl (a++b)=cl a++cl b:=by simp[cl]
theorem zI {X:OA->Int->WP}{b k s:Nat}{fs:List Bk}{ls:List (List UInt8)}{p:PS}(I: ∀y g w,aG.bl1 R X y g w->X y g w)(h:DocC σ b L fs (oH s ls) p w)(W:k<=fs.length)(hc:callE P aI #[kT (kE b)] (λe O=> ∃(H:Value),e= hQ H/\X (kE b) (k:Int) O) w):X (kE b) (k:Int) w:=by
 obtain⟨M,b3,U,a7,hs,ht,V,⟨b4,e,rfl,a6⟩,h⟩:=h
 have E:=hs.2.1
 rw[lA0,lS0] at E
 refine I _ _ _ (aa ?_)
 refine⟨_,_,_,h.ldA,?_⟩
 rw[E]
 exact ag (by simp;omega) hc
theorem Pd.close (f4:op.task=false){xs:List IN}{junk:List Bk}{lf:Leaf}(h:Pd G op xs junk lf):vu G op xs junk lf:=by
 induction h with
 |none=>
  intro σ R L b pb p w X gs top k O a7 b4 d2 H a6 h W
  exact W w p top [] rfl rfl rfl (.refl top) (by simp) .nil (by simp[cl]) h
 | @para s ls hp=>
  intro σ R L b pb p w X gs top k O a7 b4 d2 H a6 h W
  have f1:=H top (by simp)
  have g0:k<=(gs++ [top]).length:=by rw[lA0];simp;omega
  refine zI O h g0 ?_
  refine uc h hp.fin (by omega) (by omega) λw p' b5 nb t x b1 b2 b7 U V f5 h6 h=>⟨_,rfl,?_⟩
  have hb:s+ls.length - 1<2000000000:=by omega
  exact W w p' b5 _ b1 b2 b7 U V (.cons (E2 f5 hb hp.tame hp.inl) .nil) (by simp[cl,kf]) h
 | @quote f junk lf xs ys hq hxs hys ih=>
  intro σ R L b pb p w X gs top k O a7 b4 d2 H a6 h W
  have d1:gs++top::f::junk=(gs++ [top])++f::junk:=by simp
  rw[d1] at H a6 h
  have f1:=H top (by simp)
  refine ih σ R L b pb p w X (gs++ [top]) f k O a7 b4 (by simp;omega) H a6 h λw p' y l b1 b2 b7 U V c9 g2 h=>?_
  have h:DocC σ b L (gs++ [top,y]) .none p' w:=by simpa using h
  have I:y.ok:=by obtain⟨_,_,_,_,_,_,c8,_⟩:=h;exact c8 y (by simp)
  have e0:y.ob.n<1000000:=by have:=I.1.1;have:=I.2.1;simp at*;omega
  refine oW O h (by simp;omega) ?_
  refine yE h (U.quote hq) (by omega) λw b5 nb x ht b9 h=>⟨_,rfl,?_⟩
  refine W w {p' with stn:=gs.length+1} b5 _ b1 b2 b7 ht b9 ?_ ?_ h
  rotate_left
  ·have b6:cl [nX nb y.ob.s y.ob.e y.ob.q y.ob.n y.ob.c y.IM y.D]=cl f.D++cl l:=by rw[<-df,<-V];simp[cl,nX]
   have d5:txF (f::junk)=cl f.D++txF junk:=by simp[txF]
   rw[b6,d5,lA0,lA0];omega
  have:=yX (nb:=nb) (s:=y.ob.s) (e:=y.ob.e) I.1 e0 ⟨I.2.2.1,by have:=I.2.2.2;omega⟩ (by rw[V];exact hxs.append c9)
  rw[U.2.1,U.2.2.1] at this⊢
  exact .cons this .nil
 | @list f g junk lf lb wd bul num it items ixs xs ys hf hfD hit hg hwd hu hxs hys ih=>
  intro σ R L b pb p w X gs top k O a7 b4 d2 H a6 h W
  have d1:gs++top::f::g::junk=(gs++ [top,f])++g::junk:=by simp
  rw[d1] at H a6 h
  have f1:=H top (by simp)
  have h7:=H f (by simp)
  refine ih σ R L b pb p w X (gs++ [top,f]) g k O a7 b4 (by simp;omega) H a6 h λw p' E l b1 b2 b7 U V c9 g2 h=>?_
  have h:DocC σ b L (gs++ [top]++ [f,E]) .none p' w:=by simpa using h
  refine oW O h (by simp;omega) ?_
  refine ud h (U.itemOf hg).item hf (by omega) λw y nb x f6 f2 h5 b9 e8 h=>⟨_,rfl,?_⟩
  generalize d0:IT.mk nb E.ob.s E.ob.e E.ob.q E.ob.n E.ob.c wd E.IM E.D=ii at b9 e8
  have b8:ItR G op (items++ [ii]) (ixs++ [.mk {kind:=4,width:=wd,s:=g.ob.s,e:=g.ob.e} (xs++ys)]):=by
   refine hit.append ?_
   have:=ItR.cons (G:=G) (op:=op) (i:=ii) (xs:=xs++ys) e8 (by rw[<-d0];show TDs G op E.D (xs++ys);rw[V];exact hxs.append c9) .nil
   rw[<-d0] at this⊢
   have d3:(IT.mk nb E.ob.s E.ob.e E.ob.q E.ob.n E.ob.c wd E.IM E.D).s=g.ob.s:=U.2.1
   have b6:(IT.mk nb E.ob.s E.ob.e E.ob.q E.ob.n E.ob.c wd E.IM E.D).e=g.ob.e:=U.2.2.1
   rw[d3,b6] at this
   exact this
  have h:DocC σ b L (gs++ [top,y]) .none {p' with stn:=(gs++ [top]).length+1} w:=by simpa using h
  have I:y.ok:=by obtain⟨_,_,_,_,_,_,c8,_⟩:=h;exact c8 y (by simp)
  have e9:y.D=(items++ [ii]).map IT.db:=by rw[b9,hfD];simp
  have e0:y.ob.n<1000000:=by have:=I.1.1;have:=I.2.1;simp at*;omega
  refine oW O h (by simp;omega) ?_
  refine Ao (op:=op) (pb:=pb) (items:=items++ [ii]) (pos:=vw) h f6 e9 (by simp) b8.facts (by rw[<-b4];exact oP b1) a7 f4 (by omega) λw p2 b5 g4 d3 c5 x g6 h2 h0 h8 ht f0 f3 g5 h=>⟨_,rfl,?_⟩
  refine W w p2 b5 _ (g6.trans b1) (h2.trans b2) (h0.trans b7) ht g5 (.cons ?_ .nil) ?_ h
  rotate_left
  ·have b6:cl [p8 g4 y.ob.s d3 bul.toNat num (mb vw (items++ [ii])) y.ob.q y.ob.n y.ob.c y.IM c5]=cl (c5.map IT.db):=by simp[cl,p8]
   have g7:(cl (c5.map IT.db))=cl ((items++ [ii]).map IT.db):=by
    rcases f0 with ⟨_,rfl⟩|⟨_,hr⟩
    ·rfl
    ·exact(hr.facts λi hi d hd=>((b8.facts i hi).2 d hd).1).1
   have h3:cl ii.D=cl g.D++cl l:=by rw[<-d0,<-df,<-V]
   have h4:cl ((items++ [ii]).map IT.db)=cl f.D++(cl g.D++cl l):=by rw[lV0,df,<-hfD,<-h3];simp[cl,IT.db]
   have d5:txF (f::g::junk)=cl f.D++(cl g.D++txF junk):=by simp[txF]
   rw[b6,g7,h4,d5];simp only[lA0];omega
  have d4:=I.1
  rw[e9] at d4
  have g1:((items++ [ii]).map IT.db).map DB.v=(items++ [ii]).map IT.v:=by simp[Function.comp_def,IT.db]
  rw[g1] at d4
  rw[f2]
  refine A9 hu d4 e0 ⟨f2▸I.2.2.1,?_⟩ b8 f0 f3.2
  obtain⟨h1,g3,rfl⟩:=f3.1
  have:=(b8.facts h1 g3).1.se.2
  omega
theorem Eq {xs:List IN}{junk:List Bk}{lf:Leaf}{b pb:Nat}{p:PS}{gs:List Bk}{top:Bk}(b9:vu G op xs junk lf)(V:op.at pb∈L)(a6:p.pz=kE pb)(b7: ∀g∈gs++top::junk,g.D.length<=90000)(b5:(txF (gs++top::junk)).length<=90000)(h:DocC σ b L (gs++top::junk) lf p w)(b6: ∀w (p':PS) y l,p'.base=p.base->p'.depth=p.depth->p'.lineno=p.lineno->y.like top->y.D=top.D++l->TDs G op l xs->(cl l).length<=(txF junk).length+1->DocC σ b L (gs++ [y]) .none p' w->R (hQ (.tuple #[])) w):
 callE P bj #[kT (kE b),hY ((gs.length+1:Nat):Int)] R w:=by
 refine aG.sound ?_
 have H:=h
 obtain⟨M,c1,O,b8,hs,ht,U,c4,h⟩:=h
 have E:=hs.2.1
 simp only[lA0,lS0,lF0] at E
 refine aa ?_
 refine⟨_,_,_,h.ldA,?_⟩
 rw[E]
 refine ae (by simp;omega) ?_
 intro X I
 refine b9 σ R L b pb p w X gs top (gs.length+1) I V a6 (lZ0 _) b7 b5 H λw p' y l b1 b2 c3 c2 a7 W b4 h=>?_
 have H:=h
 obtain⟨M,c1,O,b8,hs,ht,U,⟨rfl,rfl⟩,h⟩:=h
 have E:=hs.2.1
 simp only[lA0,lS0,lF0,lK1,lL1] at E
 refine I _ _ _ (aa ?_)
 refine⟨_,_,_,h.ldA,?_⟩
 rw[E]
 exact ae (by simp) (b6 w p' y l b1 b2 c3 c2 a7 W b4 H)
theorem DocC.drop {b:Nat}{c:ai}{fs:List Bk}{lf:Leaf}{p:PS}(h:DocC σ b (c::L) fs lf p w):DocC σ b L fs lf p w:=by
 obtain⟨M,I,g,H,hs,ht,y,E,h⟩:=h
 exact⟨M,I,g,H,hs,ht,y,E,h.less [c]⟩
theorem vg {xs:List IN}{junk:List Bk}{lf:Leaf}{b b1 pb:Nat}{p:PS}{gs:List Bk}{top:Bk}{l:Ln}(c2:vu G op xs junk lf)(U:op.at pb∈L)(W:p.pz=kE pb)(c1: ∀g∈gs++top::junk,g.D.length<=90000)(b7:(txF (gs++top::junk)).length<=90000)(h:DocC σ b (l.at b1::L) (gs++top::junk) lf p w)(hd:p.depth=gs.length)(c5:gs.length<1000000)(c3:l.ok)(hb:l.blank=true)(b9: ∀w (p':PS) y l,p'.base=p.base->p'.lineno=p.lineno->y.like top->y.D=top.D++l->TDs G op l xs->(cl l).length<=(txF junk).length+1->DocC σ b L (gs++ [y]) .none p' w->R (hQ (.tuple #[])) w):
 aj.k2 R (kE b) b1 w:=by
 unfold aj.k2
 obtain⟨M,H,I,E,hs,ht,O,b6,h⟩:=h
 have h:Sat σ w (l.at b1::p.at b::(M++(H++(aM (gs++top::junk)++(E++L))))):=h.re
 refine dC h (.head _) c3 λw h=>⟨_,rfl,?_⟩
 rw[hb]
 refine ag rfl (aa ⟨_,Sat.ld h (.tail _ (.head _)) (i:=5) rfl,?_⟩)
 have e:i64.wrap (p.depth+1)=((gs.length+1:Nat):Int):=by rw[hd,i64_in _ (by omega)];omega
 rw[e]
 refine Eq (L:=l.at b1::L) (pb:=pb) c2 (.tail _ U) W c1 b7 ⟨M,H,I,E,hs,ht,O,b6,h.re⟩ λw p' y b8 a7 b2 c4 b4 a6 V b5 h=>⟨rfl,?_⟩
 exact b9 w p' y b8 a7 c4 b4 a6 V b5 h.drop

theorem Pd.len {xs:List IN}{junk:List Bk}{lf:Leaf}(h:Pd G op xs junk lf):xs.length<=1:=by
 cases h<;>simp
theorem LnR.quoteNo {l:Ln}(h:LnR l []):l.quote=none:=by
 have y:=h.lenNil
 have E:=h.sp
 have g:l.text[l.i]? =none:=lT1 y
 unfold Ln.quote Ln.lead Ln.trimSp Ln.tsGo
 rw[if_neg (by omega),if_neg (by simp),if_neg (by rw[g];simp),if_neg (by rw[g];simp),if_pos (lC2 _)]
 simp[Ln.trimC,g]
theorem E8 {X:OA->Nat->WP}(b6: ∀V O w,aj.bl1 R X V O w->X V O w){b b1:Nat}{p:PS}{gs rest:List Bk}{f:Bk}{lf:Leaf}{l:Ln}(h:DocC σ b (l.at b1::L) (gs++f::rest) lf p w)(hd:p.depth+1=gs.length)(c3:0<gs.length/\gs.length<1000000)(c2:l.ok)(b9: ∀(E:Ending->World->Prop) K w,(∀y∈gs++f::rest,∀c∈y.own,c∈K)->Sat σ w K->(∀w,Sat σ w K->E (hQ (.tuple #[l.val,hV false])) w)->cY P (callMethod f.ob.bd "pub-paratext/pub/rscmarkdown.extend" #[kT (kE b),l.val]) E w)
 (a7: ∀w,DocC σ b (l.at b1::L) (gs++f::rest) lf p w->aj.k2 R (kE b) b1 w):X (kE b) b1 w:=by
 obtain⟨M,W,I,U,hs,ht,a6,b7,h⟩:=h
 have b4: ∀y∈gs++f::rest,∀c∈y.own,c∈aM (gs++f::rest):=by
  intro y H c hc
  unfold aM
  exact lS2.2 ⟨y,H,by unfold Bk.mem;simp[hc]⟩
 have b3:p.depth=((gs.length - 1:Nat):Int):=by omega
 have b5:((gs++f::rest).map Bk.ob++I)[gs.length - 1+1]? =some f.ob:=by
  rw[show gs.length - 1+1=gs.length by omega,lM0 (by simp),lF2]
  simp
 have h:Sat σ w (l.at b1::(p.at b::M++(W++(aM (gs++f::rest)++(U++L))))):=h.re
 refine u6 (l2:=l) (ok:=false) b6 h hs b3 (by omega) b5 c2 (λE b0 w h c1=>?_) (.inr ⟨rfl,rfl⟩) (λb8=>absurd b8 (by decide)) (λ_ w h=>?_)
 ·exact b9 E _ w (λy H c hc=>by simp[b4 y H c hc]) h c1
 ·exact a7 w ⟨M,W,I,U,hs,ht,a6,b7,h.re⟩
theorem E9 {X:OA->Nat->WP}(b3: ∀H y w,aj.bl1 R X H y w->X H y w){b b1 s:Nat}{p:PS}{gs:List Bk}{ls:List (List UInt8)}{l:Ln}(h:DocC σ b (l.at b1::L) gs (oH s ls) p w)(hd:p.depth+1=gs.length)(b8:0<gs.length/\gs.length<1000000)(b6:l.ok)(W: ∀w,DocC σ b (l.at b1::L) gs (oH s ls) p w->aj.k2 R (kE b) b1 w):X (kE b) b1 w:=by
 obtain⟨M,I,b7,E,hs,ht,U,g,h⟩:=h
 have V:=g
 obtain⟨O,e,rfl,b9⟩:=g
 have a6:p.depth=((gs.length - 1:Nat):Int):=by omega
 have a7:(gs.map Bk.ob++ [jO O s e])[gs.length - 1+1]? =some (jO O s e):=by
  rw[show gs.length - 1+1=gs.length by omega];simp
 have h:Sat σ w (l.at b1::(p.at b::M++(I++(aM gs++(E++L))))):=h.re
 refine u6 (l2:=l) (ok:=false) b3 h hs a6 (by omega) a7 b6 (λc1 b0 w h b5=>?_) (.inr ⟨rfl,rfl⟩) (λb4=>absurd b4 (by decide)) (λ_ w h=>?_)
 ·refine bm sg ?_
  exact uF h b5
 ·exact W w ⟨M,I,_,E,hs,ht,U,V,h.re⟩
theorem endX {X:OA->Nat->WP}(U: ∀y g w,aj.bl1 R X y g w->X y g w){b b1:Nat}{p:PS}{gs:List Bk}{l:Ln}(h:DocC σ b (l.at b1::L) gs .none p w)(hd:p.depth+1=gs.length)(W:0<gs.length/\gs.length<1000000)(O: ∀w,DocC σ b (l.at b1::L) gs .none p w->aj.k2 R (kE b) b1 w):X (kE b) b1 w:=by
 obtain⟨M,E,V,a6,hs,ht,I,⟨rfl,rfl⟩,h⟩:=h
 have H:=hs.2.1
 simp only[lG0,lS0] at H
 refine U _ _ _ ?_
 have h:Sat σ w (l.at b1::p.at b::(M++(E++(aM gs++([]++L))))):=h.re
 refine Sat.tk h λw h=>aa (aa ?_)
 refine⟨_,Sat.ld h (.tail _ (.head _)) (i:=5) rfl,_,_,_,Sat.ld h (.tail _ (.head _)) (i:=4) rfl,?_⟩
 rw[i64_in _ (by omega),H]
 refine ae (by simp;omega) ?_
 exact O w ⟨M,E,[],[],hs,ht,I,⟨rfl,rfl⟩,h.re⟩
theorem Ds (e0:op.task=false){X:OA->Nat->WP}(b9: ∀f3 f0 w,aj.bl1 R X f3 f0 w->X f3 f0 w){b b1 pb:Nat}(e2:op.at pb∈L){xs:List IN}{junk:List Bk}{lf:Leaf}(e8:Pd G op xs junk lf):
 ∀(gs:List Bk) (top:Bk) (p:PS) (l:Ln) (w:World),p.pz=kE pb->gs.length+junk.length<900000->(∀H∈gs++top::junk,H.D.length<=90000)->(txF (gs++top::junk)).length<=90000->DocC σ b (l.at b1::L) (gs++top::junk) lf p w->p.depth=gs.length->LnR l []->
  (∀w (p':PS) I l O d3 pend,p'.base=p.base->p'.lineno=p.lineno->I.like top->I.D=top.D++l->TDs G op l d3->Pd G op pend O .none->d3++pend=xs->(O.length<=junk.length/\ ∀N,(∀H∈junk,H.D.length<=N)-> ∀H∈O,H.D.length<=N+1)->(txF (I::O)).length<=(txF (top::junk)).length+1->
   (O= []\/ ∃f rest lb num it,∃bul:UInt8,O=f::rest/\f.isList lb bul.toNat num it/\ ∃x,xs= [x]/\x.h.char= [bul])->DocC σ b L (gs++I::O) .none p' w->R (hQ (.tuple #[])) w)->X (kE b) b1 w:=by
 have e3: ∀(top I:Bk) (l:List DB) (junk:List Bk),I.D=top.D++l->(cl l).length<=(txF junk).length+1->(txF [I]).length<=(txF (top::junk)).length+1:=by
  intro top I l junk f5 h5
  have h7:txF (top::junk)=cl top.D++txF junk:=by simp[txF]
  rw[dH,f5,df,h7]
  simp only[lA0];omega
 have e6:=e8
 induction e8 with
 |none=>
  intro gs top p l w b4 d2 a6 W h hd E b5
  refine endX b9 h (by simp;omega) ⟨by simp,by simp;omega⟩ λw h=>?_
  refine vg (Pd.close e0 (.none:Pd G op [] [] .none)) e2 b4 a6 W h hd (by omega) E.ok (by unfold Ln.blank;rw[E.tx];rfl) λw p' I b8 b6 b7 V U b3 c6 h=>?_
  exact b5 w p' I b8 [] [] [] b6 b7 V U b3 .none rfl ⟨lC2 _,λN _ H a7=>by cases a7⟩ (e3 _ _ _ _ U c6) (.inl rfl) h
 | @para s ls hp=>
  intro gs top p l w b4 d2 a6 W h hd E b5
  refine E9 b9 h (by simp;omega) ⟨by simp,by simp;omega⟩ E.ok λw h=>?_
  refine vg (Pd.close e0 e6) e2 b4 a6 W h hd (by omega) E.ok (by unfold Ln.blank;rw[E.tx];rfl) λw p' I b8 b6 b7 V U b3 c6 h=>?_
  exact b5 w p' I b8 [] _ [] b6 b7 V U b3 .none (by simp) ⟨lC2 _,λN _ H a7=>by cases a7⟩ (e3 _ _ _ _ U c6) (.inl rfl) h
 | @quote f junk lf xs ys hq hxs hys ih=>
  intro gs top p l w b4 d2 a6 W h hd E b5
  obtain⟨j1,g7,i8⟩:=hq
  have h:DocC σ b (l.at b1::L) ((gs++ [top])++f::junk) lf p w:=by simpa using h
  refine E8 b9 h (by simp;omega) ⟨by simp,by simp;omega⟩ E.ok (λg0 K w _ h d0=>?_) λw h=>?_
  ·rw[g7]
   refine bm mi ?_
   exact rS h E.ok (by rw[E.quoteNo];exact⟨rfl,rfl⟩) d0
  have h:DocC σ b (l.at b1::L) (gs++top::f::junk) lf p w:=by simpa using h
  refine vg (Pd.close e0 e6) e2 b4 a6 W h hd (by omega) E.ok (by unfold Ln.blank;rw[E.tx];rfl) λw p' I b8 b6 b7 V U b3 c6 h=>?_
  exact b5 w p' I b8 [] _ [] b6 b7 V U b3 .none (by simp) ⟨lC2 _,λN _ H a7=>by cases a7⟩ (e3 _ _ _ _ U c6) (.inl rfl) h
 | @list f H junk lf lb wd bul num it items ixs xs ys hf hfD hit a7 hwd hu hxs hys ih=>
  intro gs top p l w b4 d2 a6 W h hd E b5
  simp only[lF0] at d2
  have g1:=a7
  have e7:=hf
  obtain⟨ib,g5,g4,e9⟩:=a7
  obtain⟨g6,h0⟩:=hf
  have hb:l.blank=true:=by unfold Ln.blank;rw[E.tx];rfl
  have h:DocC σ b (l.at b1::L) ((gs++ [top])++f::H::junk) lf p w:=by simpa using h
  refine rC (l2:=l) b9 h (by simp;omega) ⟨by simp,by simp;omega⟩ E.ok hb (λg0 K w d5 h d0=>?_) λw h=>?_
  ·rw[g6]
   refine bm gl ?_
   refine lA (ib:=ib) (lb:=lb) (n:=wd) (hv:=true) (bul:=bul.toNat) (num:=num) (lo:=false) (td:= .nilFunc) h E.ok (by omega) ?_ ?_ (by rw[E.padEnd];exact⟨rfl,rfl⟩) d0
   ·rw[<-g5];exact d5 f (by simp) _ (by rw[h0];exact .head _)
   ·exact d5 H (by simp) _ (by rw[e9];exact .head _)
  have h:DocC σ b (l.at b1::L) ((gs++ [top,f])++H::junk) lf {p with depth:=((gs++ [top]).length:Nat)} w:=by simpa using h
  refine rC (l2:=Ln.zero) b9 h (by simp;omega) ⟨by simp,by simp;omega⟩ E.ok hb (λg0 K w d5 h d0=>?_) λw h=>?_
  ·rw[g4]
   refine bm kg ?_
   exact pm h E.ok hb (d5 H (by simp) _ (by rw[e9];exact .head _)) d0
  have g3:gs++top::f::H::junk=(gs++ [top,f])++H::junk:=by simp
  rw[g3] at a6 W
  refine ih hys (gs++ [top,f]) H {p with depth:=((gs++ [top,f]).length:Nat)} Ln.zero w b4 (by simp;omega) a6 W h rfl ⟨⟨by decide,by decide,by decide,by decide⟩,rfl,rfl⟩ λw p' d4 b8 O d3 pend b6 b7 V U b3 c6 c7 f4 j0 h9 h=>?_
  have h:DocC σ b L (gs++top::f::d4::O) .none p' w:=by simpa using h
  have g2:Pd G op [z0 f.ob.s bul num (ixs++ [.mk {kind:=4,width:=wd,s:=H.ob.s,e:=H.ob.e} (xs++ys)])] (f::d4::O) .none:=by
   have:=Pd.list (G:=G) (op:=op) (xs:=xs++d3) e7 hfD hit (V.itemOf g1) hwd hu (by rw[U];exact hxs.append b3) c6
   rw[lD0,c7,V.2.1,V.2.2.1] at this
   exact this
  refine b5 w p' top [] (f::d4::O) [] _ b6 b7 (.refl top) (by simp) .nil g2 rfl ⟨by have:=f4.1;simp;omega,λN e5 x d1=>?_⟩ ?_ (.inr ⟨f,d4::O,lb,num,it,bul,rfl,e7,_,rfl,rfl⟩) h
  ·rcases lW0.1 d1 with rfl|d1
   ·have:=e5 x (by simp);omega
   rcases lW0.1 d1 with rfl|d1
   ·have f5:=e5 H (by simp)
    have h5:=b3.len
    have i0:=hys.len
    have h6:=congrArg List.length c7
    rw[U];simp only[lA0] at h6⊢;omega
   ·exact f4.2 N (λy h8=>e5 y (by simp[h8])) x d1
  ·have f6: ∀(u:Bk) J,txF (top::f::u::J)=cl top.D++(cl f.D++txF (u::J)):=by intro u J;simp[txF]
   rw[f6,f6]
   simp only[lA0];omega

theorem pI {xs:List IN}{junk:List Bk}{lf:Leaf}{b pb H:Nat}{cs:List Value}{E:TypeId}{p:PS}{gs:List Bk}{top:Bk}{t:TypeId}{v:Value}(c9:vu G op xs junk lf)(b8:op.at pb∈L)(c1:p.pz=kE pb)(c8: ∀V∈gs++top::junk,V.D.length<=90000)(c3:(txF (gs++top::junk)).length<=90000)(h:DocC σ b ((H,cel cs E)::L) (gs++top::junk) lf p w)(hd:p.depth=gs.length)(d5:gs.length<900000)(a6:p.lineno<1000000000)(c5: ∀w (p':PS) y l f,p'.base=p.base->p'.lineno=p.lineno->p'.depth=p.depth->y.like top->y.D=top.D++l->TDs G op l xs->(cl l).length<=(txF junk).length+1->f.ob=⟨.iface t v,none,0,0,p.lineno,p.lineno⟩->f.own= [(H,cel cs E)]->f.D= []->f.IM= []->
  DocC σ b L (gs++ [y,f]) .none p' w->R (hQ (.tuple #[])) w):
 callE P bR #[kT (kE b),.iface t v] R w:=by
 obtain⟨M,b5,b6,b3,hs,ht,b7,c2,h⟩:=h
 have h:Sat σ w (p.at b::(M++(b5++(aM (gs++top::junk)++(b3++((H,cel cs E)::L)))))):=h
 refine rf h (by omega) λw h=>?_
 have e:p.depth+1=((gs.length+1:Nat):Int):=by omega
 rw[e]
 refine Eq (L:=(H,cel cs E)::L) (pb:=pb) c9 (.tail _ b8) c1 c8 c3 ⟨M,b5,b6,b3,hs,ht,b7,c2,h⟩ λw d3 y d1 c4 d2 a7 k1 k2 k3 k4 h=>?_
 obtain⟨d0,U,d4,e0,W,k5,k6,⟨rfl,rfl⟩,h⟩:=h
 rw[lG0] at W
 refine⟨rfl,d3,(gs++ [y]).map Bk.ob,d0,U++(aM (gs++ [y])++((H,cel cs E)::L)),W,by simp;omega,h,λw p' b4 I b9 h=>?_⟩
 ·refine c5 w p' y d1 ⟨⟨.iface t v,none,0,0,p.lineno,p.lineno⟩,[(H,cel cs E)],[],[]⟩ (by rw[I,<-c4];rfl) (by rw[I,<-a7]) (by rw[I,<-d2]) k1 k2 k3 k4 rfl rfl rfl rfl ?_
  have e:gs++ [y,(⟨⟨.iface t v,none,0,0,p.lineno,p.lineno⟩,[(H,cel cs E)],[],[]⟩:Bk)]=(gs++ [y])++ [⟨⟨.iface t v,none,0,0,p.lineno,p.lineno⟩,[(H,cel cs E)],[],[]⟩]:=by simp
  rw[e]
  refine⟨b4,U,[],[],?_,?_,?_,⟨rfl,rfl⟩,?_⟩
  ·rw[lV0,lG0,<-a7];exact b9
  ·rw[bD,dH]
   show Txts _ ((txF (gs++ [y])++ []).map TX.t) U
   rw[lG0]
   exact k5.of (by rw[I]) (by rw[I]) (by rw[I])
  ·intro V O
   rcases lO0.1 O with O|O
   ·exact k6 V O
   ·obtain rfl:=lQ0.1 O
    exact⟨Sl.nil 1 aO,by simp,a6,a6⟩
  ·rw[bh (gs++ [y]),dy]
   show Sat σ w (p'.at b::b4++(U++(aM (gs++ [y])++([]++([(H,cel cs E)]++([]++ [])))++([]++L))))
   exact h.re

def Bk.np (f:Bk):Prop:= ∃t v,f.ob.bd= .iface t v/\t≠ar
def Bk.box_ (f:Bk):Prop:= ∃t v,f.ob.bd= .iface t v/\t≠ar/\t≠az
theorem Bk.box_.np {f:Bk}(h:f.box_):f.np:=by obtain⟨t,v,y,g,_⟩:=h;exact⟨t,v,y,g⟩
theorem Bk.isQuote.box_ {f:Bk}(h:f.isQuote):f.box_:=by obtain⟨y,g,_⟩:=h;exact⟨_,_,g,by decide,by decide⟩
theorem ItemOf.box_ {f:Bk}{it:OA}{lb wd:Nat}{hv:Bool}(h:ItemOf it f lb wd hv):f.box_:=by obtain⟨ib,_,g,_⟩:=h;exact⟨_,_,g,by decide,by decide⟩
theorem Bk.isListT.np {f:Bk}{it:OA}{lb:Nat}{bul num:Int}{td:Value}(h:f.isListT lb bul num it td):f.np:=⟨_,_,h.1,by decide⟩
theorem Pd.next {xs:List IN}{junk:List Bk}{lf:Leaf}(h:Pd G op xs junk lf): ∀f rest,junk=f::rest->f.np:=by
 cases h with
 |none=>intro f rest h;cases h
 |para _=>intro f rest h;cases h
 |quote a _ _=>intro f rest h;cases h;exact a.box_.np
 |list a _ _ _ _ _ _ _=>intro f rest h;cases h;exact a.np
theorem Pd.last {xs:List IN}{junk:List Bk}{lf:Leaf}(h:Pd G op xs junk lf):lf= .none-> ∀(pre:List Bk) (f:Bk),f.np-> ∃H o t v,(pre++f::junk).map Bk.ob=H++ [o]/\o.bd= .iface t v/\t≠ar:=by
 induction h with
 |none=>intro _ pre f U;obtain⟨t,v,y,E⟩:=U;exact⟨pre.map Bk.ob,f.ob,t,v,by simp,y,E⟩
 |para _=>intro h;cases h
 | @quote f junk lf xs ys a _ _ ih=>
  intro I pre O W
  obtain⟨H,o,t,v,y,E⟩:=ih I (pre++ [O]) f a.box_.np
  exact⟨H,o,t,v,by rw[<-y];simp,E⟩
 | @list f O junk lf lb wd bul num it items ixs xs ys a _ _ b _ _ _ _ ih=>
  intro I pre k V
  obtain⟨H,o,t,v,y,E⟩:=ih I (pre++ [k,f]) O b.box_.np
  exact⟨H,o,t,v,by rw[<-y];simp,E⟩
theorem nF {b:Nat}{p:PS}{gs junk:List Bk}{top:Bk}{M:List ai}{l:Ln}(hs:Stk p ((gs++top::junk).map Bk.ob) M)(hd:p.depth=gs.length)(b4:gs.length<900000)(ht:top.np)(O: ∀f rest,junk=f::rest->f.np)(I: ∃g o t v,(gs++top::junk).map Bk.ob=g++ [o]/\o.bd= .iface t v/\t≠ar)(H:l.ok):AL b p M l ci:=by
 intro σ w L R h E
 obtain⟨t,v,t1,V⟩:=ht
 cases junk with
 |nil=>
  exact kH (d:=gs.length) (ob:=gs.map Bk.ob) (o:=top.ob) h (by simpa using hs) hd (by simp) t1 V H E
 |cons f rest=>
  obtain⟨g,o,b7,b5,y,a7,b3⟩:=I
  obtain⟨b6,b8,a6,W⟩:=O f rest rfl
  rw[y] at hs
  refine kI (d:=gs.length) (ob:=g) (o:=o) (o1:=f.ob) h hs hd (by omega) ?_ a6 W a7 (λU=>absurd U b3) H E
  rw[<-y]
  simp
theorem DQ {b:Nat}{p:PS}{gs junk:List Bk}{top:Bk}{M:List ai}{l:Ln}(hs:Stk p ((gs++top::junk).map Bk.ob) M)(hd:p.depth=gs.length)(V:gs.length<900000)(ht:top.box_)(W: ∀f rest,junk=f::rest->f.np)(H: ∃E o t v,(gs++top::junk).map Bk.ob=E++ [o]/\o.bd= .iface t v/\t≠ar)(O:l.cont): ∀f∈newsF,AL b p M l f:=by
 intro f I
 have g:=O.plain
 have U:=nF (b:=b) (l:=l) hs hd V ht.np W H g.ok
 obtain⟨t,v,t1,b7,b4⟩:=ht
 obtain⟨E,o,b8,b6,a6,b3,a7⟩:=H
 simp only[newsF,lW0,lD1,or_false] at I
 intro σ w L R h y
 rcases I with rfl|rfl|rfl|rfl|rfl|rfl|rfl|rfl
 ·exact iu (x:= .nilIface) h g.ok g.quote y
 ·exact ly h g.ok g.heading y
 ·exact U σ w L R h y
 ·exact rA h g.ok g.hr y
 ·exact g.bullet b gs.length p _ top.ob M t v hs hd (by simp) t1 b4 σ w L R h y
 ·exact nH h g.ok O.lt y
 ·exact sd h g.ok g.fence y
 ·rw[a6] at hs
  exact wh (ob:=E) h hs (o:=o) b3 (λb5=>absurd b5 a7) g.ok g.pre y
theorem DocC.toLeaf {b:Nat}{gs:List Bk}{f:Bk}{p:PS}{A:List OB->List ai->Prop}(h:DocC σ b L (gs++ [f]) .none p w)(y:f.D= [])(U:f.IM= [])(I:A [f.ob] f.own):DocC σ b L gs (.other A) p w:=by
 obtain⟨M,E,W,a6,hs,ht,H,⟨rfl,rfl⟩,h⟩:=h
 refine⟨M,E,[f.ob],f.own,by simpa using hs,?_,λV O=>H V (by simp[O]),I,?_⟩
 ·have:txF (gs++ [f])=txF gs:=by rw[bD,dH,y];simp[cl]
  rw[this] at ht;exact ht
 ·rw[bh,dy,y,U] at h
  have h:Sat σ w (p.at b::M++(E++((aM gs++([]++(f.own++([]++ []))))++([]++L)))):=h
  exact h.re
theorem vT (c8:op.task=false){g0:OA->Nat->WP}{b b1 pb:Nat}{xs:List IN}{gs junk:List Bk}{top:Bk}{p:PS}{l:Ln}(W:Pd G op xs junk .none)(h:DocC σ b (l.at b1::L) (gs++top::junk) .none p w)(hd:p.depth=gs.length)(b6:gs.length<900000)(ht:top.box_)(c5:l.cont)(f5: ∀g∈gs++top::junk,g.D.length<=90000)(e0:(txF (gs++top::junk)).length<=90000)(b8:p.pz=kE pb)(b7:op.at pb∈L)(c1:p.lineno<1000000000)(f0: ∀w (p':PS) y U,p'.base=p.base->p'.lineno=p.lineno->y.like top->y.D=top.D++U->TDs G op U xs->(cl U).length<=(txF junk).length+1->DocC σ b L (gs++ [y]) (oH p.lineno [l.rest]) p' w->R (hQ (.tuple #[])) w):
 aj.bl102 R g0 (kE b) b1 w:=by
 obtain⟨M,H,h1,h3,hs,d4,d1,⟨rfl,rfl⟩,h⟩:=h
 rw[lG0] at hs
 have h:Sat σ w (p.at b::M++(l.at b1::(H++(aM (gs++top::junk)++L)))):=h.re
 have a6:=W.last rfl gs top ht.np
 refine uf h (DQ hs hd b6 ht W.next a6 c5) λw nb e g6 h g3=>?_
 obtain⟨g5,o,h6,h5,d5,g4,c2⟩:=a6
 have d2:Stk p (g5++ [o]) M:=by rw[<-d5];exact hs
 refine dX.sound ?_
 refine Sat.bx h λI w h=>?_
 refine Sat.bx h λE w h=>?_
 have h:Sat σ _ (zLn E::l.at I::(p.at b::M++(l.at b1::(nb,cel newsC e)::(H++(aM (gs++top::junk)++L))))):=h
 have h:Sat σ _ (p.at b::M++(zLn E::l.at I::(l.at b1::(nb,cel newsC e)::(H++(aM (gs++top::junk)++L))))):=h.re
 refine qB h d2 g4 (λw h=>?_) (λhc=>absurd hc c2)
 rw[if_neg c2]
 refine⟨_,rfl,?_⟩
 repeat (first|refine aa ?_|refine h.tk λw h=>?_|refine⟨_,h.ldA,?_⟩|refine⟨_,_,_,h.ldA,?_⟩)
 have h:Sat σ _ (l.at I::(p.at b::M++(zLn E::(l.at b1::(nb,cel newsC e)::(H++(aM (gs++top::junk)++L)))))):=h.re
 refine kD h (.head _) c5.plain.ok λw h=>⟨_,rfl,?_⟩
 refine⟨_,w,jf kA _ _ _ w,ae rfl (ae rfl ?_)⟩
 have h:Sat σ _ (p.at b::(l.at I::(M++(zLn E::(l.at b1::(nb,cel newsC e)::(H++(aM (gs++top::junk)++L))))))):=h.re
 refine Sat.tk h λw h=>?_
 refine aa ?_
 refine⟨_,Sat.ld h (.head _) rfl,?_⟩
 rw[b8]
 refine aa ?_
 have g1:op.at pb∈(p.at b::(l.at I::(M++(zLn E::(l.at b1::(nb,cel newsC e)::(H++(aM (gs++top::junk)++L))))))):=by simp[b7]
 refine⟨op.table,Sat.ld h g1 rfl,?_⟩
 have fin:dX.k4 (λe w=>g6 e w) (kE b) E none (bs l.rest) false w:=by
  refine ae rfl ⟨_,w,jf kA _ _ _ w,ae rfl ?_⟩
  refine Sat.bx h λV w h=>?_
  have h:Sat σ _ ((V,cel [hT none 0 0,kT none] aL)::p.at b::(l.at I::(M++(zLn E::(l.at b1::(nb,cel newsC e)::(H++(aM (gs++top::junk)++L))))))):=h
  have d0:DocC σ b ((V,cel [hT none 0 0,kT none] aL)::(zLn E::L)) (gs++top::junk) .none p w:=⟨M,H,[],[],by rw[lG0];exact hs,d4,d1,⟨rfl,rfl⟩,h.less [l.at I,l.at b1,(nb,cel newsC e)]⟩
  refine pI (pb:=pb) (W.close c8) (.tail _ b7) b8 f5 e0 d0 hd b6 c1 λw p' y U f e8 e9 h4 k1 k2 k3 k4 e7 f6 c4 g7 h=>⟨rfl,?_⟩
  have h:=h
  obtain⟨c3,b5,h0,h2,b9,a7,c9,⟨rfl,rfl⟩,h⟩:=h
  have e4:aM (gs++ [y,f])=aM (gs++ [y])++ [(V,cel [hT none 0 0,kT none] aL)]:=by
   rw[show gs++ [y,f]=(gs++ [y])++ [f] by simp,bh,dy,f6,c4,g7];simp[cX,txc,cl]
  rw[e4] at h
  have h:Sat σ w (zLn E:: [(V,cel [hT none 0 0,kT none] aL)]++(p'.at b::c3++(b5++(aM (gs++ [y])++L)))):=h.re
  refine rV h (ts:= []) ⟨none,0,[],Sl.nil 1 aq,rfl⟩ (by decide) λw e6 d3 h=>?_
  refine g3 w true ?_
  refine f0 w p' y U e8 e9 k1 k2 k3 k4 ⟨c3,b5,[f.ob],e6,?_,?_,λg O=>c9 g (by simp at O⊢;rcases O with O|O<;>simp[O]),⟨V,p.lineno,by rw[e7];rfl,d3,c1,by simp,by simp⟩,h.re⟩
  ·have g2:(gs++ [y,f]).map Bk.ob++ []=(gs++ [y]).map Bk.ob++ [f.ob]:=by simp
   rw[g2] at b9;exact b9
  ·have:txF (gs++ [y,f])=txF (gs++ [y]):=by rw[show gs++ [y,f]=(gs++ [y])++ [f] by simp,bD,dH,c4];simp[cl]
   rw[this] at a7;exact a7
 refine bM (λ_=>⟨_,jf kA _ _ _,ae rfl fin⟩) (λ_=>fin)

def DocE (σ:Out)(b:Nat)(L:List ai)(ex:List TX)(fs:List Bk)(p:PS)(w:World):Prop:=
 ∃M y g E,Stk p (fs.map Bk.ob++g) M/\Txts p ((txF fs++ex).map TX.t) y/\(∀f∈fs,f.ok)/\CS .none g E/\Sat σ w (p.at b::M++(y++(aM fs++(E++L))))
theorem pS {X:OA->Int->WP}{b k:Nat}{ex:List TX}{fs:List Bk}{p:PS}(I: ∀y g w,aG.bl1 R X y g w->X y g w)(h:DocE σ b L ex fs p w)(W:k<fs.length)(hc:callE P aI #[kT (kE b)] (λe O=> ∃(H:Value),e= hQ H/\X (kE b) (k:Int) O) w):X (kE b) (k:Int) w:=by
 obtain⟨M,b3,U,a7,hs,ht,V,a6,h⟩:=h
 have E:=hs.2.1
 rw[lA0,lS0] at E
 refine I _ _ _ (aa ?_)
 refine⟨_,_,_,h.ldA,?_⟩
 rw[E]
 exact ag (by simp;omega) hc
theorem DocE.closed {ex:List TX}{b:Nat}{gs:List Bk}{par f:Bk}{p2:PS}{O y U:List ai}{V:Option Addr}{I:Nat}{d:DB}{H:List ai}(a6: ∀W∈gs++ [par,f],Bk.ok W)(b7:par.D.length<99999)(b3:Stk p2 (gs.map Bk.ob++ [{par.ob with q:=V,n:=par.ob.n+1,c:=I}]) O)(b4:Sl 1 aO V (par.ob.n+1) I (par.D.map DB.v++ [d.v]) y)(ht:Txts p2 ((txF (gs++ [par,f])++ex).map TX.t) U)(a7:d.txs=cl f.D)(h:Sat σ w (p2.at b::O++(y++(U++(aM gs++(H++(cX par.D++(txc par.D++(d.own++(txc f.D++L)))))))))):
 DocE σ b L ex (gs++ [⟨{par.ob with q:=V,n:=par.ob.n+1,c:=I},H,par.D++ [d],y⟩]) p2 w:=by
 refine⟨O,U,[],[],?_,?_,?_,⟨rfl,rfl⟩,?_⟩
 ·rw[lV0,lG0];exact b3
 ·have e:txF (gs++ [⟨{par.ob with q:=V,n:=par.ob.n+1,c:=I},H,par.D++ [d],y⟩])=txF (gs++ [par,f]):=by
   rw[bD,bD,dH,un,jz,a7]
  rw[e];exact ht
 ·intro W E
  rcases lO0.1 E with E|E
  ·exact a6 W (by simp[E])
  ·obtain rfl:=lQ0.1 E
   obtain⟨_,b6,b5⟩:=a6 par (by simp)
   exact⟨by rw[lV0];exact b4,by simp;omega,b5⟩
 ·rw[bh,dy,lx,nE,a7]
  show Sat σ w (p2.at b::O++(U++(aM gs++(y++(H++((cX par.D++d.own)++(txc par.D++txc f.D))))++([]++L))))
  exact h.re
theorem yD {ex:List TX}{b:Nat}{gs:List Bk}{par f:Bk}{p:PS}(h:DocE σ b L ex (gs++ [par,f]) p w)(b3:f.isQuote)(b4:par.D.length<99999)(a7: ∀w g nb x,g.like par->g.D=par.D++ [nX nb f.ob.s f.ob.e f.ob.q f.ob.n f.ob.c f.IM f.D]->DocE σ b L ex (gs++ [g]) {p with stn:=gs.length+1} w->R (hQ x) w):
 callE P aI #[kT (kE b)] R w:=by
 obtain⟨M,b5,b8,c1,hs,ht,E,⟨rfl,rfl⟩,h⟩:=h
 obtain⟨O,H,U⟩:=b3
 have hs:Stk p (gs.map Bk.ob++ [par.ob]++ [f.ob]) M:=by simpa using hs
 have y:=(E par (by simp)).1
 have b9:par.ob.n=par.D.length:=by have:=y.1;simp at this;omega
 rw[bh,jD,U] at h
 refine iS h hs H λw h=>?_
 rw[H]
 refine bm mP ?_
 refine o7 h hs λw nb h=>⟨_,rfl,none,false,w,j3 (by decide) w,ae rfl ?_⟩
 have h:Sat σ w (p.at b::M++(par.IM++(b5++(aM gs++(par.own++(cX par.D++(txc par.D++((Do nb f.ob.s f.ob.e f.ob.q f.ob.n f.ob.c::(f.IM++cX f.D))++(txc f.D++(Fh O::L)))))))))):=h.re
 refine lL h hs y (by omega) λw p2 c2 a6 b6 b7 W I V h=>?_
 have e:p2= {p with stn:=gs.length+1}:=by rw[W,lS0]
 rw[e] at I h
 refine a7 w ⟨{par.ob with q:=b6,n:=par.ob.n+1,c:=b7},par.own,par.D++ [nX nb f.ob.s f.ob.e f.ob.q f.ob.n f.ob.c f.IM f.D],a6⟩ nb _ ⟨rfl,rfl,rfl,rfl⟩ rfl (DocE.closed (par:=par) (f:=f) (d:=nX nb f.ob.s f.ob.e f.ob.q f.ob.n f.ob.c f.IM f.D) E b4 I V (ht.of rfl rfl rfl) rfl ?_)
 exact h.less [Fh O] (by intro _;simp only[nX,lN3,dE,eP,mg]<;>omega)
theorem Ap {ex:List TX}{b lb wd:Nat}{hv:Bool}{bul num:Int}{it:Option Addr}{td:Value}{gs:List Bk}{par f:Bk}{p:PS}(h:DocE σ b L ex (gs++ [par,f]) p w)(b7:f.isItem lb wd hv)(b9:par.isListT lb bul num it td)(b8:par.D.length<99999)(b6: ∀w g nb x,g.isListT lb bul num none td->g.ob.s=par.ob.s->g.ob.e=par.ob.e->g.D=par.D++ [(IT.mk nb f.ob.s f.ob.e f.ob.q f.ob.n f.ob.c wd f.IM f.D).db]->(IT.mk nb f.ob.s f.ob.e f.ob.q f.ob.n f.ob.c wd f.IM f.D).ok->DocE σ b L ex (gs++ [g]) {p with stn:=gs.length+1} w->R (hQ x) w):
 callE P aI #[kT (kE b)] R w:=by
 obtain⟨M,E,c3,c8,hs,ht,y,⟨rfl,rfl⟩,h⟩:=h
 obtain⟨ib,I,a6⟩:=b7
 obtain⟨a7,V⟩:=b9
 have hs:Stk p (gs.map Bk.ob++ [par.ob]++ [f.ob]) M:=by simpa using hs
 have H:=(y par (by simp)).1
 obtain⟨U,c4,W⟩:=y f (by simp)
 have c5:par.ob.n=par.D.length:=by have:=H.1;simp at this;omega
 rw[bh,jD,a6,V] at h
 refine iS h hs I λw h=>?_
 rw[I]
 have h:Sat σ w (p.at b::M++(gh ib lb wd hv::cN lb bul num false it td::(par.IM++(E++(aM gs++(cX par.D++(txc par.D++(f.IM++(cX f.D++(txc f.D++L)))))))))):=h.re
 refine bm ot ?_
 refine qO h hs λw nb h=>⟨_,rfl,none,false,w,j3 (by decide) w,ae rfl ?_⟩
 have h:Sat σ w (p.at b::M++(par.IM++(E++(aM gs++([cN lb bul num false none td]++(cX par.D++(txc par.D++(((IT.mk nb f.ob.s f.ob.e f.ob.q f.ob.n f.ob.c wd f.IM f.D).chunk::(f.IM++cX f.D))++(txc f.D++L))))))))):=by
  have h:Sat σ w (p.at b::M++((IT.mk nb f.ob.s f.ob.e f.ob.q f.ob.n f.ob.c wd f.IM f.D).chunk::cN lb bul num false none td::(par.IM++(E++(aM gs++(cX par.D++(txc par.D++(f.IM++(cX f.D++(txc f.D++L)))))))))):=h
  exact h.re
 refine lL h hs H (by omega) λw p2 c9 b5 c1 c2 b4 O b3 h=>?_
 have e:p2= {p with stn:=gs.length+1}:=by rw[b4,lS0]
 rw[e] at O h
 refine b6 w ⟨{par.ob with q:=c1,n:=par.ob.n+1,c:=c2},[cN lb bul num false none td],par.D++ [(IT.mk nb f.ob.s f.ob.e f.ob.q f.ob.n f.ob.c wd f.IM f.D).db],b5⟩ nb _ ⟨a7,rfl⟩ rfl rfl rfl ⟨U,by show f.D.length<1000000;omega,W⟩ (DocE.closed (par:=par) (f:=f) (d:=(IT.mk nb f.ob.s f.ob.e f.ob.q f.ob.n f.ob.c wd f.IM f.D).db) y b8 O b3 (ht.of rfl rfl rfl) rfl ?_)
 exact h
theorem An {ex:List TX}{b lb pb:Nat}{op:Opt}{bul num:Int}{it:Option Addr}{gs:List Bk}{par f:Bk}{p:PS}{items:List IT}{pos:DB->Nat × Nat}(h:DocE σ b L ex (gs++ [par,f]) p w)(d3:f.isList lb bul num it)(E:f.D=items.map IT.db)(d0:items≠ [])(I: ∀i∈items,i.ok/\ ∀d∈i.D,d.kindOK/\d.posIs (pos d).1 (pos d).2/\(pos d).1<1000000000/\(pos d).2<2000000000)(c8:p.pz=kE pb)(c3:op.at pb∈L)(b9:op.task=false)(d4:par.D.length<99999)(d2: ∀w (p':PS) U nb e g x,p'.base=p.base->p'.depth=p.depth->p'.lineno=p.lineno->p'.stn=gs.length+1->U.like par->Tgh (mb pos items) items g->((∃i∈items,e=i.e)/\items.getLast?.map IT.e=some e)->U.D=par.D++ [p8 nb f.ob.s e bul num (mb pos items) f.ob.q f.ob.n f.ob.c f.IM g]->
  DocE σ b L ex (gs++ [U]) p' w->R (hQ x) w):
 callE P aI #[kT (kE b)] R w:=by
 obtain⟨M,a6,e4,e9,hs,ht,V,⟨rfl,rfl⟩,h⟩:=h
 obtain⟨b5,c2⟩:=d3
 have hs:Stk p (gs.map Bk.ob++ [par.ob]++ [f.ob]) M:=by simpa using hs
 have b3:=(V par (by simp)).1
 obtain⟨O,b4,c1⟩:=V f (by simp)
 have e6:par.ob.n=par.D.length:=by have:=b3.1;simp at this;omega
 have d1:f.D.map DB.v=items.map IT.v:=by rw[E];simp[Function.comp_def,IT.db]
 rw[d1] at O
 have e7:items.length<100000:=by rw[E] at b4;simpa using b4
 have e5:txc f.D=(cl (items.map IT.db)).map TX.chunk:=by rw[E];rfl
 rw[bh,jD,c2,E] at h
 refine iS h hs b5 λw h=>?_
 rw[b5]
 have h:Sat σ w (p.at b::M++(cN lb bul num false it .nilFunc::(f.IM++(cX (items.map IT.db)++(par.IM++(a6++(aM gs++(par.own++(cX par.D++(txc par.D++(txc (items.map IT.db)++L))))))))))):=h.re
 refine bm oo ?_
 refine qN (pos:=pos) h hs O d0 (by omega) c1.1 I λw nb e g W d5 h=>⟨_,rfl,kE nb,true,w,ol (by rw[mz];intro e8 h;cases h) mz w,ag rfl (aa ?_)⟩
 have b7:g.map IT.v=items.map IT.v:=by
  rcases W with ⟨_,rfl⟩|⟨_,hr⟩
  ·rfl
  ·exact hr.vs
 have a7:cl (g.map IT.db)=cl (items.map IT.db)/\ ∀i∈g,i.ok/\ ∀d∈i.D,d.ifc:=by
  rcases W with ⟨_,rfl⟩|⟨_,hr⟩
  ·exact⟨rfl,λi hi=>⟨(I i hi).1,λd hd=>((I i hi).2 d hd).1.ifc.1⟩⟩
  ·exact hr.facts λi hi d hd=>((I i hi).2 d hd).1
 have b8:g.length<1000000:=by have:=congrArg List.length b7;simp at this;omega
 have k2: ∀(y:Bool) w,Sat σ w (({p with corner:=y}:PS).at b::M++(tj nb f.ob.s e bul num (mb pos items) f.ob.q f.ob.n f.ob.c::(f.IM++(cX (g.map IT.db)++(par.IM++(a6++(aM gs++(par.own++(cX par.D++(txc par.D++(txc (items.map IT.db)++L)))))))))))->
  aK.k2 R (kE b) (.iface dl (kT (kE nb))) (kE nb) w:=by
  intro y w h
  refine aa ⟨_,Sat.ld h (.head _) (i:=0) rfl,?_⟩
  rw[c8]
  refine aa ⟨_,Sat.ld h (by simp[c3]:op.at pb∈_) rfl,ae b9 ?_⟩
  have h:Sat σ w (({p with corner:=y}:PS).at b::M++(par.IM++(a6++(aM gs++(par.own++(cX par.D++(txc par.D++((tj nb f.ob.s e bul num (mb pos items) f.ob.q f.ob.n f.ob.c::(f.IM++cX (g.map IT.db)))++(txc f.D++L))))))))):=by
   rw[E]
   exact h.re
  refine lL h (hs.of rfl rfl rfl) b3 (by omega) λw p2 f0 c9 e1 e3 c5 b6 c4 h=>?_
  have e0:p2= {p with corner:=y,stn:=gs.length+1}:=by rw[c5,lS0]
  rw[e0] at b6 h
  refine d2 w {p with corner:=y,stn:=gs.length+1} ⟨{par.ob with q:=e1,n:=par.ob.n+1,c:=e3},par.own,par.D++ [p8 nb f.ob.s e bul num (mb pos items) f.ob.q f.ob.n f.ob.c f.IM g],c9⟩ nb e g _ rfl rfl rfl rfl ⟨rfl,rfl,rfl,rfl⟩ W d5 rfl
   (DocE.closed (par:=par) (f:=f) (d:=p8 nb f.ob.s e bul num (mb pos items) f.ob.q f.ob.n f.ob.c f.IM g) V d4 b6 c4 (ht.of rfl rfl rfl) ?_ ?_)
  ·rw[E];exact a7.1
  ·exact h
 refine⟨_,Sat.ld h (.head _) (i:=6) rfl,bM (λ_=>aa ?_) λ_=>?_⟩
 ·refine Sat.st h (k:=0) rfl (by simp[PS.cells]) trivial rfl λw h=>?_
  exact k2 true w h
 ·refine pj (nb:=nb) (s:=f.ob.s) (e:=e) (bul:=bul) (num:=num) (loose:=mb pos items) (items:=g) (b7▸O) a7.2 b8 h (λx H=>?_) λy=>⟨_,rfl,aa ?_⟩
  ·rcases lW0.1 H with rfl|H
   ·simp
   ·rcases lO0.1 H with H|H<;>simp[H]
  ·refine Sat.st h (k:=0) rfl (by simp[PS.cells]) trivial rfl λw h=>?_
   exact k2 y w h
def CV (G:List UInt8->List Inl)(op:Opt)(xs:List IN)(junk:List Bk):Prop:=
 ∀(σ:Out) (R:Ending->World->Prop) (L:List ai) (ex:List TX) (b pb:Nat) (p:PS) (w:World) (X:OA->Int->WP) (gs:List Bk) (top:Bk) (k:Nat),(∀E H w,aG.bl1 R X E H w->X E H w)->op.at pb∈L->p.pz=kE pb->k<=gs.length+1->
  (∀I∈gs++top::junk,I.D.length<=90000)->(txF (gs++top::junk)).length<=90000->DocE σ b L ex (gs++top::junk) p w->
  (∀w (p':PS) y l,p'.base=p.base->p'.depth=p.depth->p'.lineno=p.lineno->y.like top->y.D=top.D++l->TDs G op l xs->(cl l).length<=(txF junk).length+1->DocE σ b L ex (gs++ [y]) p' w->X (kE b) (k:Int) w)->X (kE b) (k:Int) w
theorem Pd.closeE (f4:op.task=false){xs:List IN}{junk:List Bk}{lf:Leaf}(h:Pd G op xs junk lf)(c9:lf= .none):CV G op xs junk:=by
 induction h with
 |none=>
  intro σ R L ex b pb p w X gs top k O W a6 f3 I V h b4
  exact b4 w p top [] rfl rfl rfl (.refl top) (by simp) .nil (by simp[cl]) h
 |para _=>cases c9
 | @quote f junk lf xs ys hq hxs hys ih=>
  intro σ R L ex b pb p w X gs top k O W a6 f3 I V h b4
  have d1:gs++top::f::junk=(gs++ [top])++f::junk:=by simp
  rw[d1] at I V h
  have f5:=I top (by simp)
  refine ih c9 σ R L ex b pb p w X (gs++ [top]) f k O W a6 (by simp;omega) I V h λw p' y l b1 b2 d5 U a7 c8 g1 h=>?_
  have h:DocE σ b L ex (gs++ [top,y]) p' w:=by simpa using h
  have H:y.ok:=by obtain⟨_,_,_,_,_,_,c5,_⟩:=h;exact c5 y (by simp)
  have e0:y.ob.n<1000000:=by have:=H.1.1;have:=H.2.1;simp at*;omega
  refine pS O h (by simp;omega) ?_
  refine yD h (U.quote hq) (by omega) λw b9 nb x ht b7 h=>⟨_,rfl,?_⟩
  refine b4 w {p' with stn:=gs.length+1} b9 _ b1 b2 d5 ht b7 ?_ ?_ h
  rotate_left
  ·have b5:cl [nX nb y.ob.s y.ob.e y.ob.q y.ob.n y.ob.c y.IM y.D]=cl f.D++cl l:=by rw[<-df,<-a7];simp[cl,nX]
   have d4:txF (f::junk)=cl f.D++txF junk:=by simp[txF]
   rw[b5,d4,lA0,lA0];omega
  have:=yX (nb:=nb) (s:=y.ob.s) (e:=y.ob.e) H.1 e0 ⟨H.2.2.1,by have:=H.2.2.2;omega⟩ (by rw[a7];exact hxs.append c8)
  rw[U.2.1,U.2.2.1] at this⊢
  exact .cons this .nil
 | @list f g junk lf lb wd bul num it items ixs xs ys hf hfD hit hg hwd hu hxs hys ih=>
  intro σ R L ex b pb p w X gs top k O W a6 f3 I V h b4
  have d1:gs++top::f::g::junk=(gs++ [top,f])++g::junk:=by simp
  rw[d1] at I V h
  have f5:=I top (by simp)
  have h5:=I f (by simp)
  refine ih c9 σ R L ex b pb p w X (gs++ [top,f]) g k O W a6 (by simp;omega) I V h λw p' E l b1 b2 d5 U a7 c8 g1 h=>?_
  have h:DocE σ b L ex (gs++ [top]++ [f,E]) p' w:=by simpa using h
  refine pS O h (by simp;omega) ?_
  refine Ap h (U.itemOf hg).item hf (by omega) λw y nb x f6 f1 h4 b7 e8 h=>⟨_,rfl,?_⟩
  generalize d0:IT.mk nb E.ob.s E.ob.e E.ob.q E.ob.n E.ob.c wd E.IM E.D=ii at b7 e8
  have b6:ItR G op (items++ [ii]) (ixs++ [.mk {kind:=4,width:=wd,s:=g.ob.s,e:=g.ob.e} (xs++ys)]):=by
   refine hit.append ?_
   have:=ItR.cons (G:=G) (op:=op) (i:=ii) (xs:=xs++ys) e8 (by rw[<-d0];show TDs G op E.D (xs++ys);rw[a7];exact hxs.append c8) .nil
   rw[<-d0] at this⊢
   have d2:(IT.mk nb E.ob.s E.ob.e E.ob.q E.ob.n E.ob.c wd E.IM E.D).s=g.ob.s:=U.2.1
   have b5:(IT.mk nb E.ob.s E.ob.e E.ob.q E.ob.n E.ob.c wd E.IM E.D).e=g.ob.e:=U.2.2.1
   rw[d2,b5] at this
   exact this
  have h:DocE σ b L ex (gs++ [top,y]) {p' with stn:=(gs++ [top]).length+1} w:=by simpa using h
  have H:y.ok:=by obtain⟨_,_,_,_,_,_,c5,_⟩:=h;exact c5 y (by simp)
  have e9:y.D=(items++ [ii]).map IT.db:=by rw[b7,hfD];simp
  have e0:y.ob.n<1000000:=by have:=H.1.1;have:=H.2.1;simp at*;omega
  refine pS O h (by simp;omega) ?_
  refine An (op:=op) (pb:=pb) (items:=items++ [ii]) (pos:=vw) h f6 e9 (by simp) b6.facts (by rw[<-a6];exact oP b1) W f4 (by omega) λw p2 b9 g3 d2 b8 x g5 h1 g6 h6 ht f0 f2 g4 h=>⟨_,rfl,?_⟩
  refine b4 w p2 b9 _ (g5.trans b1) (h1.trans b2) (g6.trans d5) ht g4 (.cons ?_ .nil) ?_ h
  rotate_left
  ·have b5:cl [p8 g3 y.ob.s d2 bul.toNat num (mb vw (items++ [ii])) y.ob.q y.ob.n y.ob.c y.IM b8]=cl (b8.map IT.db):=by simp[cl,p8]
   have g7:(cl (b8.map IT.db))=cl ((items++ [ii]).map IT.db):=by
    rcases f0 with ⟨_,rfl⟩|⟨_,hr⟩
    ·rfl
    ·exact(hr.facts λi hi d hd=>((b6.facts i hi).2 d hd).1).1
   have h2:cl ii.D=cl g.D++cl l:=by rw[<-d0,<-df,<-a7]
   have h3:cl ((items++ [ii]).map IT.db)=cl f.D++(cl g.D++cl l):=by rw[lV0,df,<-hfD,<-h2];simp[cl,IT.db]
   have d4:txF (f::g::junk)=cl f.D++(cl g.D++txF junk):=by simp[txF]
   rw[b5,g7,h3,d4];simp only[lA0];omega
  have d3:=H.1
  rw[e9] at d3
  have g0:((items++ [ii]).map IT.db).map DB.v=(items++ [ii]).map IT.v:=by simp[Function.comp_def,IT.db]
  rw[g0] at d3
  rw[f1]
  refine A9 hu d3 e0 ⟨f1▸H.2.2.1,?_⟩ b6 f0 f2.2
  obtain⟨h0,g2,rfl⟩:=f2.1
  have:=(b6.facts h0 g2).1.se.2
  omega
theorem E0 {ex:List TX}{xs:List IN}{junk:List Bk}{b pb:Nat}{p:PS}{gs:List Bk}{top:Bk}(b9:CV G op xs junk)(V:op.at pb∈L)(a6:p.pz=kE pb)(b7: ∀g∈gs++top::junk,g.D.length<=90000)(b5:(txF (gs++top::junk)).length<=90000)(h:DocE σ b L ex (gs++top::junk) p w)(b6: ∀w (p':PS) y l,p'.base=p.base->p'.depth=p.depth->p'.lineno=p.lineno->y.like top->y.D=top.D++l->TDs G op l xs->(cl l).length<=(txF junk).length+1->DocE σ b L ex (gs++ [y]) p' w->R (hQ (.tuple #[])) w):
 callE P bj #[kT (kE b),hY ((gs.length+1:Nat):Int)] R w:=by
 refine aG.sound ?_
 have H:=h
 obtain⟨M,c1,O,b8,hs,ht,U,⟨rfl,rfl⟩,h⟩:=h
 have E:=hs.2.1
 simp only[lA0,lS0,lF0,lK1,lL1] at E
 refine aa ?_
 refine⟨_,_,_,h.ldA,?_⟩
 rw[E]
 refine ae (by simp;omega) ?_
 intro X I
 refine b9 σ R L ex b pb p w X gs top (gs.length+1) I V a6 (lZ0 _) b7 b5 H λw p' y l b1 b2 c3 c2 a7 W b4 h=>?_
 have H:=h
 obtain⟨M,c1,O,b8,hs,ht,U,⟨rfl,rfl⟩,h⟩:=h
 have E:=hs.2.1
 simp only[lA0,lS0,lF0,lK1,lL1] at E
 refine I _ _ _ (aa ?_)
 refine⟨_,_,_,h.ldA,?_⟩
 rw[E]
 exact ae (by simp) (b6 w p' y l b1 b2 c3 c2 a7 W b4 H)
theorem qs {b pb:Nat}{xs:List IN}{junk:List Bk}{p:PS}{gs:List Bk}{top:Bk}{d:DB}{b5:TypeId}{q:OA}(e0:CV G op xs junk)(c5:op.at pb∈L)(c8:p.pz=kE pb)(c1: ∀g∈gs++top::junk,g.D.length<=90000)(d3:(txF (gs++top::junk)).length<=90000)(h:DocE σ b (d.own++(d.txs.map TX.chunk++L)) d.txs (gs++top::junk) p w)(hd:p.depth=gs.length)(e5:gs.length<900000)(hv:d.v= .iface b5 (kT q))(e7:xs.length<=1)(d4: ∀w (p':PS) a6 l,p'.base=p.base->p'.depth=p.depth->p'.lineno=p.lineno->a6.like top->a6.D=top.D++(l++ [d])->TDs G op l xs->(cl l).length<=(txF junk).length+1->DocC σ b L (gs++ [a6]) .none p' w->R (hQ (.tuple #[])) w):
 callE P dL #[kT (kE b),.iface b5 (kT q)] R w:=by
 refine f9.sound ?_
 have e1:=h
 obtain⟨M,O,c4,d5,hs,ht,a7,⟨rfl,rfl⟩,h⟩:=h
 refine aa ⟨_,Sat.ld h (.head _) (i:=5) rfl,?_⟩
 have e:i64.wrap (p.depth+1)=((gs.length+1:Nat):Int):=by rw[hd,i64_in _ (by omega)];omega
 rw[e]
 refine E0 (pb:=pb) e0 (lB0 _ (lB0 _ c5)) c8 c1 d3 e1 λw I y l b1 b2 e4 W b9 b8 d1 h=>⟨rfl,?_⟩
 obtain⟨M,O,c4,d5,hs,ht,a7,⟨rfl,rfl⟩,h⟩:=h
 rw[lG0,lV0] at hs
 have hs:Stk I (gs.map Bk.ob++ [y.ob]) M:=hs
 have b6:=hs.2.1
 rw[lA0,lS0,lE0] at b6
 have b7:=a7 y (by simp)
 have c2:=b7.1
 have e8:y.ob.n=y.D.length:=by have:=c2.1;simp at this;omega
 have e6:y.D.length<=90001:=by
  have e9:=c1 top (by simp)
  have f0:=b8.len
  rw[b9,lA0];omega
 obtain⟨sb,sp,c3,rfl,d0⟩:=hs.split (by simp)
 have b4:(gs.map Bk.ob).length=gs.length:=by simp
 have h:Sat σ w (I.at b::(sb,cel (aP (gs.map Bk.ob++ [y.ob])++sp) ay)::(O++(aM (gs++ [y])++(d.own++(d.txs.map TX.chunk++L))))):=h.re
 refine h.tk λw h=>?_
 refine aa (aa ?_)
 refine⟨_,_,_,h.ldA,?_⟩
 refine⟨_,_,_,h.ldA,?_⟩
 rw[b6,show i64.wrap (((gs.length+1:Nat):Int) - 1)=((gs.length:Nat):Int) by rw[i64_in _ (by omega)];omega,c3]
 refine⟨by omega,by omega,aa ?_⟩
 simp only[lK0,lN0,lC0,lL1]
 refine⟨_,_,_,Sat.ld h (.tail _ (.head _)) (fg (j:=gs.length) (f:=1) (by decide) (by rw[<-b4];exact ik (l:=gs.map Bk.ob) y.ob)),?_⟩
 rw[bh,dy] at h
 have h:Sat σ _ (y.IM++(I.at b::(sb,cel (aP (gs.map Bk.ob++ [y.ob])++sp) ay)::(O++(aM gs++(y.own++(cX y.D++txc y.D))++(d.own++(d.txs.map TX.chunk++L)))))):=h.re
 refine Sat.app1 rowBlock c2 h (v:= .iface b5 (kT q)) rfl (by simp[Value.cells,Value.oneCell']) (by kernel_rfl) (by omega) (by omega) (by decide) λE H w U d2 h=>?_
 have h:Sat σ _ (I.at b::(sb,cel (aP (gs.map Bk.ob++ [y.ob])++sp) ay)::(U++(O++(aM gs++(y.own++(cX y.D++txc y.D))++(d.own++(d.txs.map TX.chunk++L)))))):=h.re
 refine Sat.st h (k:=1) rfl (by rw[lA0,aR,lA0,b4,lE0];omega) trivial rfl λw h=>?_
 have e3:(aP (gs.map Bk.ob++ [y.ob])++sp).set (gs.length*4+1) (hT E (y.ob.n+1) H)=aP (gs.map Bk.ob++ [{y.ob with q:=E,n:=y.ob.n+1,c:=H}])++sp:=by
  have:=kW (l:=gs.map Bk.ob) (sp:=sp) (o:=y.ob) (o':= {y.ob with q:=E,n:=y.ob.n+1,c:=H}) (f:=1) (v:= hT E (y.ob.n+1) H) (by decide) rfl
  rw[b4] at this;exact this
 have h:Sat σ w (I.at b::(sb,cel (aP (gs.map Bk.ob++ [{y.ob with q:=E,n:=y.ob.n+1,c:=H}])++sp) ay)::(U++(O++(aM gs++(y.own++(cX y.D++txc y.D))++(d.own++(d.txs.map TX.chunk++L)))))):=by
  rw[<-e3];exact h
 have c9:Stk I (gs.map Bk.ob++ [{y.ob with q:=E,n:=y.ob.n+1,c:=H}]) [(sb,cel (aP (gs.map Bk.ob++ [{y.ob with q:=E,n:=y.ob.n+1,c:=H}])++sp) ay)]:=by
  refine Stk.mk' c3 ?_ (by rw[b6];simp) (by simp;omega)
  rw[<-d0]
  simp only[lA0,aR,lE0,lK1]
 refine d4 w I ⟨{y.ob with q:=E,n:=y.ob.n+1,c:=H},y.own,y.D++ [d],U⟩ l b1 b2 e4 ⟨W.1,W.2.1,W.2.2.1,W.2.2.2⟩ (by show y.D++ [d]=_;rw[b9,lD0]) b8 d1 ?_
 refine⟨_,O,[],[],by rw[lV0,lG0];exact c9,?_,?_,⟨rfl,rfl⟩,?_⟩
 ·have:txF (gs++ [⟨{y.ob with q:=E,n:=y.ob.n+1,c:=H},y.own,y.D++ [d],U⟩])=txF (gs++ [y])++d.txs:=by
   rw[bD,bD,dH,dH,jz,lD0]
  rw[this];exact ht
 ·intro g V
  rcases lO0.1 V with V|V
  ·exact a7 g (by simp[V])
  ·obtain rfl:=lQ0.1 V
   refine⟨?_,by simp;omega,b7.2.2⟩
   show Sl 1 aO E (y.ob.n+1) H ((y.D++ [d]).map DB.v) U
   rw[lV0,List.map_singleton,hv];exact d2
 ·rw[bh,dy,lx,nE]
  exact h.re
namespace dT
def k1 (R:EP)(y:BA)(g:Int)(w:World):Prop:=
 0<=g/\g<=(y.size:Int)/\
 R (hQ (hX (y.extract 0 (Int.toNat g)))) w
def bl2 (R:EP)(Xa:BA->BA->Int->WP)(O:BA->BA->Int->Bool->Int->WP)(H E:BA)(g:Int)(I:Bool)(y:Int)(w:World):Prop:=
 br (decide (y<(E.size:Int)))
 (tk w λU=>
 0<=y/\y<(E.size:Int)/\
 0<=(i64.wrap (g - 1))/\(i64.wrap (g - 1))<(H.size:Int)/\
 br ((bt E y)==(bt H (i64.wrap (g - 1))))
 (False)
 (O H E g I (i64.wrap (y+1)) U))
 (br (!I)
 (k1 R H g w)
 (False))
def l2 (R:EP)(Xa:BA->BA->Int->WP)(I H:BA)(g:Int)(y:Bool)(E:Int)(w:World):Prop:=
 ∀X:BA->BA->Int->Bool->Int->WP,(∀I H g y E w,bl2 R Xa X I H g y E w->X I H g y E w)->X I H g y E w
def bl1 (R:EP)(Xa:BA->BA->Int->WP)(y E:BA)(g:Int)(w:World):Prop:=
 br (decide (g>0))
 (l2 R Xa y E g false 0 w)
 (False)
def l1 (R:EP)(g y:BA)(E:Int)(w:World):Prop:=
 ∀X:BA->BA->Int->WP,(∀g y E w,bl1 R X g y E w->X g y E w)->X g y E w
end dT
def dT (R:EP)(g y:BA)(w:World):Prop:=
 dT.l1 R g y (g.size:Int) w
theorem dT.sound {R x0 x1 w}(h:dT R x0 x1 w):callE P l0 #[hX x0,hX x1] R w:=
 aH [(19,.lp [1,21,107] (dT.bl1 R) λXa=> [(14,.no),(85,.lp [1,21,107,120,147] (dT.bl2 R Xa) λg=> [(17,.dr (rpN [0,3,6,9,12,15,18,21])),(41,.no)]),(237,.no)]),(15,.mk [1,107] (dT.k1 R))] Tryz.func188 Tryz.call188 h
namespace cy
def k1 (R:EP)(y:BA)(g:Int)(w:World):Prop:=
 0<=g/\g<=(y.size:Int)/\
 R (hQ (hX (y.extract 0 (Int.toNat g)))) w
def bl1 (R:EP)(Xa:BA->Int->WP)(y:BA)(g:Int)(w:World):Prop:=
 ((decide (g>0))=true->0<=(i64.wrap (g - 1))/\(i64.wrap (g - 1))<(y.size:Int))/\
 (((decide (g>0)) && (!((bt y (i64.wrap (g - 1)))==32)))=true->0<=(i64.wrap (g - 1))/\(i64.wrap (g - 1))<(y.size:Int))/\
 br ((decide (g>0)) && (((bt y (i64.wrap (g - 1)))==32)||((bt y (i64.wrap (g - 1)))==9)))
 (Xa y (i64.wrap (g - 1)) w)
 (k1 R y g w)
def l1 (R:EP)(y:BA)(g:Int)(w:World):Prop:=
 ∀X:BA->Int->WP,(∀y g w,bl1 R X y g w->X y g w)->X y g w
end cy
def cy (R:EP)(g:BA)(w:World):Prop:=
 cy.l1 R g (g.size:Int) w
theorem cy.sound {R x0 w}(h:cy R x0 w):callE P fw #[hX x0] R w:=
 aH [(19,.lp [1,67] (cy.bl1 R) λXa=> []),(15,.mk [1,67] (cy.k1 R))] Tryz.func187 Tryz.call187 h

theorem sub_le (s:List UInt8)(i:Nat):(sub s i (i+1)).length<=1:=by
 unfold sub;rw[lN1,lF1];omega

theorem tC {l:List UInt8}(W:l.length<4611686018427387904)(h:R (hQ (hX (bs (vE cM l)))) w):callE P fw #[hX (bs l)] R w:=by
 refine cy.sound ?_
 intro Y E
 rw[aJ]
 refine Gh (l:=l) (X:=λj=>Y (bs l) (j:Int) w) (p:=cM) (λi hi H U=>E _ _ _ ?_) l.length (lZ0 _) (λj V I O=>E _ _ _ ?_)
 ·have hd:=gr (n:=i+1) (by omega) (by omega)
  rw[lF3] at hd
  refine⟨λ_=>?_,λ_=>?_,ag ?_ ?_⟩
  ·rw[hd];exact⟨by omega,by simp;omega⟩
  ·rw[hd];exact⟨by omega,by simp;omega⟩
  ·rw[hd,de hi 32 32 rfl,de hi 9 9 rfl]
   simp only[cM] at H
   rw[H]
   simp
  ·rw[hd];exact U
 ·have g:cy.k1 R (bs l) (j:Int) w:=by
   refine⟨by omega,by simp;omega,?_⟩
   rw[cm]
   simp only[lC0,lK2,O,lW2]
   exact h
  rcases lJ4 j with y|y
  ·subst y
   exact⟨λh=>by simp at h,λh=>by simp at h,ae (by simp) g⟩
  ·obtain⟨i,rfl⟩: ∃i,j=i+1:=⟨j - 1,by omega⟩
   have hd:=gr (n:=i+1) (by omega) (by omega)
   rw[lF3] at hd
   refine⟨λ_=>?_,λ_=>?_,ae ?_ g⟩
   ·rw[hd];exact⟨by omega,by simp;omega⟩
   ·rw[hd];exact⟨by omega,by simp;omega⟩
   ·rw[hd,de (show i<l.length by omega) 32 32 rfl,de (show i<l.length by omega) 9 9 rfl]
    have:=I i (by omega) rfl
    simp only[cM] at this
    rw[this];simp

theorem sX {m:List UInt8}{d:UInt8}(hs:m.length<1000000000)(hd:d≠35)(h:Sat σ w L)(W: ∀w,Sat σ w L->R (hQ (hX (bs (m++ [d])))) w):callE P l0 #[hX (bs (m++ [d])),hX (bs [35])] R w:=by
 refine dT.sound ?_
 intro X O
 have g:(m++ [d]).length=m.length+1:=by simp
 rw[aJ,g]
 refine O _ _ _ _ (ag (decide_eq_true (by omega)) ?_)
 intro Y y
 refine y _ _ _ _ _ _ (ag (by decide) ?_)
 have H:i64.wrap (((m.length+1:Nat):Int) - 1)=((m.length:Nat):Int):=by simp (disch:=omega) only[i64_in];omega
 refine h.tk λw h=>?_
 rw[H]
 refine⟨by decide,by decide,by omega,by rw[aJ,g];omega,?_⟩
 have U:bt (bs [35]) 0=35:=rfl
 have V:bt (bs (m++ [d])) ((m.length:Nat):Int)=(d.toNat:Int):=by rw[oO,uY]
 rw[U,V]
 have I:((35:Int)==(d.toNat:Int))=false:=by
  have:=mA 35 d
  have E:((35:UInt8)==d)=false:=by simpa using λh=>hd h.symm
  rw[E] at this;exact this
 refine ae I ?_
 refine y _ _ _ _ _ _ (ae (by decide) (ag rfl ?_))
 unfold dT.k1
 refine⟨by omega,by rw[aJ,g];omega,?_⟩
 rw[cm,lK2,lC0,<-g,lW2]
 exact W w h

def oK (b s e lv t:Nat)(id:List UInt8):ai:=(b,cel [hY s,hY e,hY lv,kT (kE t),hX (bs id)] pR)

def zLine:Ln:=⟨0,0,0,[],0⟩

theorem yU {m:List UInt8}{d:UInt8}(hd:cM d=false):vE cM (m++ [d])=m++ [d]:=by
 unfold vE
 rw[lE5,List.reverse_singleton,lR2,lA3,hd]
 simp

theorem mM:kJ P gi "Pos" cA=true:=by kernel_rfl
theorem vX:kJ P cU "Pos" cA=true:=by kernel_rfl
theorem pv {nb t s e s' e' lv:Nat}{raw id:List UInt8}{q:OA}{n c:Nat}{vs:List Value}{RM KM:List ai}{xs:List IN}(b5:Sl 1 aC q n c vs RM)(b3:jQ ej xs vs KM)(b6:n<1073741824)(a7:id.length<1073741824):
 qx bS (.mk {kind:=5,num:=(lv:Nat),title:=id,s:=s,e:=e} xs) (bkV gi nb) (oK nb s e lv t id::fu t s' e' q n c raw::(RM++KM)):=by
 intro σ R L w h b7
 refine cj.sound ?_
 refine fG mM h (.head _) λb1 g w h=>?_
 refine⟨_,_,_,cn (by kernel_rfl) (by decide) w,ae rfl ?_⟩
 refine⟨_,_,_,cn (by kernel_rfl) (by decide) w,ae rfl ?_⟩
 refine⟨_,_,_,cn (by kernel_rfl) (by decide) w,ae rfl ?_⟩
 refine⟨_,_,_,cn (by kernel_rfl) (by decide) w,ae rfl ?_⟩
 refine⟨_,_,_,ir (by kernel_rfl) w,ag rfl ?_⟩
 refine Sat.tk h λw h=>?_
 have E:oK nb s e lv t id∈((g,cel (N16.C {a8:=s,a9:=e}).toList ak)::(b1,cel (N16.C {}).toList ak)::(oK nb s e lv t id::fu t s' e' q n c raw::(RM++KM)++L)):= .tail _ (.tail _ (.head _))
 refine aa (aa (aa ⟨_,Sat.ld h E (i:=2) rfl,_,Sat.ld h E (i:=4) rfl,_,Sat.ld h E (i:=3) rfl,aa ⟨_,_,_,Sat.ld h (.tail _ (.tail _ (.tail _ (.head _)))) (i:=2) rfl,?_⟩⟩))
 have V:=h
 have h:Sat σ w (RM++(KM++((g,cel (N16.C {a8:=s,a9:=e}).toList ak)::(b1,cel (N16.C {}).toList ak)::oK nb s e lv t id::fu t s' e' q n c raw::L))):=h.re
 refine je b5 b3 h b6 λw I U O us y NM a6 W b4 h=>⟨_,_,_,rfl,?_⟩
 have h:Sat σ w ((g,cel (N16.C {a8:=s,a9:=e}).toList ak)::(b1,cel (N16.C {}).toList ak)::oK nb s e lv t id::((y++NM)++(fu t s' e' q n c raw::(RM++KM)++L))):=h.re
 refine⟨V.same h E (.tail _ (.tail _ (.head _))) 1,V.same h E (.tail _ (.tail _ (.head _))) 1,?_⟩
 have H:=h
 refine Sat.st h (k:=0) rfl (by show 0<16;decide) trivial rfl λw h=>⟨H.same h (.tail _ (.tail _ (.head _))) (.tail _ (.tail _ (.head _))) 1,H.same h (.tail _ (.tail _ (.head _))) (.tail _ (.tail _ (.head _))) 1,?_⟩
 have H:=h
 refine Sat.st h (k:=0) rfl (by show 3<16;decide) trivial rfl λw h=>⟨H.same h (.tail _ (.tail _ (.head _))) (.tail _ (.tail _ (.head _))) 1,?_⟩
 refine Sat.st h (k:=0) rfl (by show 2<16;decide) trivial rfl λw h=>?_
 refine Sat.st h (k:=0) rfl (by show 7<16;decide) trivial rfl λw h=>?_
 have h:Sat σ w ((g,cel (IH.nd {kind:=5,num:=(lv:Nat),title:=id,s:=s,e:=e} I U O).C.toList ak)::(b1,cel (N16.C {}).toList ak)::((y++NM)++(oK nb s e lv t id::fu t s' e' q n c raw::(RM++KM)++L))):=by
  have h:Sat σ w ((g,cel (IH.nd {kind:=5,num:=(lv:Nat),title:=id,s:=s,e:=e} I U O).C.toList ak)::(b1,cel (N16.C {}).toList ak)::oK nb s e lv t id::((y++NM)++(fu t s' e' q n c raw::(RM++KM)++L))):=h
  exact h.re
 exact ia (v:=IH.nd {kind:=5,num:=(lv:Nat),title:=id,s:=s,e:=e} I U O) (u:= {}) (NM:=y++NM) ⟨_,xs,I,U,O,us,y,NM,rfl,rfl,rfl,⟨cg,a7,cg,cg⟩,a6,W,b4⟩ h b7
def hrC (nb s e:Nat)(raw:List UInt8):ai:=(nb,cel [hY s,hY e,hX (bs raw)] jJ)
theorem yp {nb s e:Nat}{raw:List UInt8}(hb:raw.length<1073741824):qx bS (.mk {kind:=9,mark:=raw,s:=s,e:=e} []) (bkV cU nb) [hrC nb s e raw]:=by
 intro σ R L w h g
 refine cj.sound ?_
 refine fG vX h (.head _) λb1 y w h=>?_
 refine⟨_,_,_,cn (by kernel_rfl) (by decide) w,ae rfl ?_⟩
 refine⟨_,_,_,cn (by kernel_rfl) (by decide) w,ae rfl ?_⟩
 refine⟨_,_,_,cn (by kernel_rfl) (by decide) w,ae rfl ?_⟩
 refine⟨_,_,_,cn (by kernel_rfl) (by decide) w,ae rfl ?_⟩
 refine⟨_,_,_,cn (by kernel_rfl) (by decide) w,ae rfl ?_⟩
 refine⟨_,_,_,cn (by kernel_rfl) (by decide) w,ae rfl ?_⟩
 refine⟨_,_,_,cn (by kernel_rfl) (by decide) w,ae rfl ?_⟩
 refine⟨_,_,_,cn (by kernel_rfl) (by decide) w,ae rfl ?_⟩
 refine⟨_,_,_,cn (by kernel_rfl) (by decide) w,ae rfl ?_⟩
 refine⟨_,_,_,ir (by kernel_rfl) w,ag rfl ?_⟩
 refine yu.sound ?_
 refine aa ⟨_,Sat.ld h (.tail _ (.tail _ (.head _))) (i:=2) rfl,_,rfl,?_⟩
 refine Sat.st h (k:=0) rfl (by show 0<16;decide) trivial rfl λw h=>?_
 refine Sat.st h (k:=0) rfl (by show 10<16;decide) trivial rfl λw h=>?_
 exact ia (v:=IH.nd {kind:=9,mark:=raw,s:=s,e:=e} none 0 0) (u:= {}) (NM:= []) (NodeAt.leaf ⟨cg,cg,cg,hb⟩) h g
def Ca (nb s:Nat)(raw:List UInt8):DB:=⟨.iface cU (kT (kE nb)),[hrC nb s s raw],[]⟩
theorem td_hr {nb s:Nat}{raw:List UInt8}(hb:raw.length<1073741824)(hs:s<1000000000):TD G op (Ca nb s raw) (.mk {kind:=9,mark:=raw,s:=s,e:=s} []):=by
 have ht:(Ca nb s raw).tree G (.mk {kind:=9,mark:=raw,s:=s,e:=s} []):=by
  intro ts ht
  refine⟨_,yp (nb:=nb) (s:=s) (e:=s) hb,λa=>?_⟩
  cases ht
  simp[Ca,fL]
 refine⟨ht,?_,.inr ⟨_,_,rfl,by decide⟩,⟨jT vX rfl (.head _),?_,hs,by show s<2000000000;omega⟩,λx g=>by simp[Ca] at g⟩
 ·rw[d8 (d:=Ca nb s raw) rfl (by decide)]
  exact ht
 ·show ((s:Int).toNat,(s:Int).toNat)=(s,s)
  simp
def ym (nb t s e lv:Nat)(raw:List UInt8):DB:=⟨.iface gi (kT (kE nb)),[oK nb s e lv t []],[⟨t,s,e,raw⟩]⟩
theorem E3 {nb t s e lv:Nat}{raw:List UInt8}(hs:s<1000000000)(H:e<2000000000)(y:lR (G raw))(O:ju none [] op raw (G raw)):TD G op (ym nb t s e lv raw) (.mk {kind:=5,num:=(lv:Nat),s:=s,e:=e} (fW (G raw))):=by
 have ht:(ym nb t s e lv raw).tree G (.mk {kind:=5,num:=(lv:Nat),s:=s,e:=e} (fW (G raw))):=by
  intro ts ht
  cases ht with
  |cons g E U=>
   cases U
   rw[<-E] at y⊢
   exact⟨_,pv (nb:=nb) (t:=t) (s:=s) (e:=e) (s':=s) (e':=e) (lv:=lv) (raw:=raw) (id:= []) g.1 (eK y g.2.2) g.2.1 (by decide),λa=>by simp[ym,fL,wQ]⟩
 refine⟨ht,?_,.inr ⟨_,_,rfl,by decide⟩,⟨jT mM rfl (.head _),?_,hs,H⟩,λx I=>?_⟩
 ·rw[d8 (d:=ym nb t s e lv raw) rfl (by decide)]
  exact ht
 ·show ((s:Int).toNat,(e:Int).toNat)=(s,e)
  simp
 ·obtain rfl:=lQ0.1 I
  exact O

theorem zR (b8:op.task=false){b5:OA->Nat->WP}{b b1 pb:Nat}{xs:List IN}{gs junk:List Bk}{top:Bk}{p:PS}{l:Ln}{s:List UInt8}(d5:Pd G op xs junk .none)(h:DocC σ b (l.at b1::L) (gs++top::junk) .none p w)(hd:p.depth=gs.length)(c4:gs.length<900000)(b6:LnR l (62::32::s))(hs:s.all cM=false)(e2: ∀g∈gs++top::junk,g.D.length<=90000)(d4:(txF (gs++top::junk)).length<=90000)(c9:p.pz=kE pb)(c5:op.at pb∈L)(d2:p.lineno<1000000000)(b4: ∀w (p':PS) y I f,p'.base=p.base->p'.lineno=p.lineno->p'.depth=p.depth+1->y.like top->y.D=top.D++I->TDs G op I xs->(cl I).length<=(txF junk).length+1->f.isQuote->f.ob.s=p.lineno->f.ob.e=p.lineno->f.D= []->
  DocC σ b (({l with i:=l.i+2}:Ln).at b1::L) (gs++ [y,f]) .none p' w->b5 (kE b) b1 w):aj.bl102 R b5 (kE b) b1 w:=by
 obtain⟨b7,W⟩:=b6.quote
 generalize ({l with i:=l.i+2}:Ln)=l2 at b7 W b4
 have d3:l2.blank=false:=by unfold Ln.blank;rw[W.tx];exact hs
 obtain⟨M,V,f0,f6,c8,d1,c3,⟨rfl,rfl⟩,h⟩:=h
 have h:Sat σ w (p.at b::M++(l.at b1::(V++(aM (gs++top::junk)++L)))):=h.re
 refine jt 0 (by decide) h (λj _ e8=>absurd e8 (by omega)) W.ok d3 λw nb e e7 h e4=>?_
 show callE P j5 _ e7 w
 refine nO.sound ?_
 refine Sat.bx h λb2 w h=>?_
 refine Sat.bx h λE w h=>?_
 repeat (first|refine aa ?_|refine h.tk λw h=>?_|refine⟨_,h.ldA,?_⟩|refine⟨_,_,_,h.ldA,?_⟩)
 have h:Sat σ _ (zLn E::l.at b2::(p.at b::M++(l.at b1::(nb,cel newsC e)::(V++(aM (gs++top::junk)++L))))):=h
 refine mJ h b6.ok ?_
 rw[b7]
 intro w h
 refine⟨_,_,_,_,_,_,rfl,?_⟩
 refine Sat.bx h λH w h=>?_
 refine h.stA 0 λw h=>?_
 refine h.stA 0 λw h=>?_
 refine h.stA 0 λw h=>?_
 refine h.stA 0 λw h=>?_
 refine h.stA 0 λw h=>?_
 refine ag rfl ?_
 refine Sat.bx h λa7 w h=>?_
 have h:Sat σ w (Fh a7::l2.at H::zLn E::l.at b2::(p.at b::M++(l.at b1::(nb,cel newsC e)::(V++(aM (gs++top::junk)++L))))):=h
 have c2:DocC σ b (Fh a7::(zLn E::l2.at H::l.at b1::L)) (gs++top::junk) .none p w:=⟨M,V,[],[],c8,d1,c3,⟨rfl,rfl⟩,h.less [l.at b2,(nb,cel newsC e)]⟩
 refine pI (pb:=pb) (d5.close b8) (.tail _ (.tail _ (.tail _ c5))) c9 e2 d4 c2 hd c4 d2 λw p' y I f e0 e1 e6 k1 k2 k3 k4 a6 e3 e5 g0 h=>⟨rfl,?_⟩
 obtain⟨U,O,e9,f5,d0,c1,b9,⟨rfl,rfl⟩,h⟩:=h
 have h:Sat σ w (zLn E::l2.at H::l.at b1::(p'.at b::U++(O++(aM (gs++ [y,f])++L)))):=h.re
 repeat (first|refine aa ?_|refine h.tk λw h=>?_|refine⟨_,h.ldA,?_⟩|refine⟨_,_,_,h.ldA,?_⟩|refine h.stA 0 λw h=>?_|refine h.stA 1 λw h=>?_|refine h.stA 2 λw h=>?_|refine h.stA 3 λw h=>?_|refine h.stA 4 λw h=>?_|refine h.stA 5 λw h=>?_|refine h.stA 6 λw h=>?_|refine h.bx λb0 w h=>?_)
 have h:Sat σ _ (l2.at E::l2.at H::l.at b1::(p'.at b::(U++(O++(aM (gs++ [y,f])++L))))):=h
 have h:Sat σ _ (l.at b1::p'.at b::(U++(O++(aM (gs++ [y,f])++L)))):=h.less [l2.at E,l2.at H]
 refine e4 _ _ p' (by omega) h λw h=>?_
 refine b4 w {p' with depth:=p'.depth+1} y I f e0 e1 (by show p'.depth+1=_;rw[e6]) k1 k2 k3 k4 ⟨a7,by rw[a6];rfl,e3⟩ (by rw[a6]) (by rw[a6]) e5 ⟨U,O,[],[],d0.of rfl rfl rfl,c1.of rfl rfl rfl,b9,⟨rfl,rfl⟩,h.re⟩
theorem Fi (b6:op.task=false){e0:OA->Nat->WP}{b b1 pb:Nat}{xs:List IN}{gs junk:List Bk}{top:Bk}{p:PS}{l:Ln}(V:Pd G op xs junk .none)(h:DocC σ b (l.at b1::L) (gs++top::junk) .none p w)(hd:p.depth=gs.length)(b4:gs.length<900000)(ht:top.np)(U:l.ok)(e2:l.quote=none)(d1:l.heading=none)(c8:l.isHR=true)(d5: ∀g∈gs++top::junk,g.D.length<=90000)(d0:(txF (gs++top::junk)).length<=90000)(c4:p.pz=kE pb)(c3:op.at pb∈L)(e7:p.lineno<1000000000)(I: ∀w (p':PS) y O nb,p'.base=p.base->p'.lineno=p.lineno->y.like top->y.D=top.D++(O++ [Ca nb p.lineno l.str])->TDs G op O xs->(cl O).length<=(txF junk).length+1->DocC σ b L (gs++ [y]) .none p' w->R (hQ (.tuple #[])) w):
 aj.bl102 R e0 (kE b) b1 w:=by
 obtain⟨M,E,e5,e8,a6,c9,c2,⟨rfl,rfl⟩,h⟩:=h
 rw[lG0] at a6
 have h:Sat σ w (p.at b::M++(l.at b1::(E++(aM (gs++top::junk)++L)))):=h.re
 have b9:=nF (b:=b) (l:=l) a6 hd b4 ht V.next (V.last rfl gs top ht) U
 refine nW 3 (by decide) h ?_ λw nb e e3 h e1=>?_
 ·intro j f0 d3 σ w L R h I
  match j,d3 with
  |0,_=>exact iu (x:= .nilIface) h U e2 I
  |1,_=>exact ly h U d1 I
  |2,_=>exact b9 σ w L R h I
 show callE P qi _ e3 w
 refine uZ.sound ?_
 refine Sat.bx h λb2 w h=>?_
 refine Sat.bx h λH w h=>?_
 repeat (first|refine aa ?_|refine h.tk λw h=>?_|refine⟨_,h.ldA,?_⟩|refine⟨_,_,_,h.ldA,?_⟩)
 have h:Sat σ _ (zLn H::l.at b2::(p.at b::M++(l.at b1::(nb,cel newsC e)::(E++(aM (gs++top::junk)++L))))):=h
 refine BZ (l:=l) h U λw h=>⟨_,rfl,?_⟩
 rw[c8]
 refine ag rfl ?_
 have h:Sat σ w (p.at b::(zLn H::l.at b2::(M++(l.at b1::(nb,cel newsC e)::(E++(aM (gs++top::junk)++L)))))):=h.re
 refine Sat.tk h λw h=>aa (aa ⟨_,Sat.ld h (.head _) (i:=3) rfl,_,Sat.ld h (.head _) (i:=3) rfl,?_⟩)
 have b5:=h
 refine oY h (.tail _ (.tail _ (.head _))) U λw h=>⟨_,rfl,b5.same h (.head _) (.head _) 1,b5.same h (.head _) (.head _) 1,?_⟩
 refine Sat.bx h λhb w h=>?_
 have h:Sat σ w (hrC hb p.lineno p.lineno l.str::p.at b::(zLn H::l.at b2::(M++(l.at b1::(nb,cel newsC e)::(E++(aM (gs++top::junk)++L)))))):=h
 have c1:DocE σ b ((Ca hb p.lineno l.str).own++((Ca hb p.lineno l.str).txs.map TX.chunk++(zLn H::l.at b1::L))) (Ca hb p.lineno l.str).txs (gs++top::junk) p w:=by
  refine⟨M,E,[],[],by rw[lG0];exact a6,?_,c2,⟨rfl,rfl⟩,?_⟩
  ·show Txts p ((txF (gs++top::junk)++ []).map TX.t) E
   rw[lG0];exact c9
  ·show Sat σ w (p.at b::M++(E++(aM (gs++top::junk)++([]++([hrC hb p.lineno p.lineno l.str]++([]++(zLn H::l.at b1::L)))))))
   exact h.less [l.at b2,(nb,cel newsC e)]
 refine qs (pb:=pb) (d:=Ca hb p.lineno l.str) (V.closeE b6 rfl) (.tail _ (.tail _ c3)) c4 d5 d0 c1 hd b4 rfl V.len λw p' y O d2 e9 d4 k1 k2 k3 k4 h=>⟨rfl,?_⟩
 obtain⟨a7,W,e4,e6,c5,b8,b7,⟨rfl,rfl⟩,h⟩:=h
 have h:Sat σ w (zLn H::l.at b1::(p'.at b::a7++(W++(aM (gs++ [y])++L)))):=h.re
 repeat (first|refine aa ?_|refine h.tk λw h=>?_|refine⟨_,h.ldA,?_⟩|refine⟨_,_,_,h.ldA,?_⟩|refine h.stA 0 λw h=>?_|refine h.stA 1 λw h=>?_|refine h.stA 2 λw h=>?_|refine h.stA 3 λw h=>?_|refine h.stA 4 λw h=>?_|refine h.stA 5 λw h=>?_|refine h.stA 6 λw h=>?_|refine h.bx λb0 w h=>?_)
 have h:Sat σ _ (zLn H::l.at b1::(p'.at b::a7++(W++(aM (gs++ [y])++L)))):=h
 refine e1 _ _ h.tail λw h=>?_
 exact I w p' y O hb d2 d4 k1 k2 k3 k4 ⟨a7,W,[],[],c5,b8,b7,⟨rfl,rfl⟩,h.re⟩

theorem LnR.hashes {c:UInt8}{r:List UInt8}(hc:c≠35): ∀(j k n:Nat) {l:Ln},j<=k->LnR l (hN j 35++c::r)->l.hashes k n=(n+j,{l with i:=l.i+j})
 |0,0,n,l,_,h=>by simp[Ln.hashes]
 |0,k+1,n,l,_,h=>by
  have h:LnR l (c::r):=h
  have e:l.trimC 35=none:=by rw[h.has.trimC,if_neg hc]
  simp[Ln.hashes,e]
 |j+1,0,n,l,hj,h=>absurd hj (by omega)
 |j+1,k+1,n,l,hj,h=>by
  have h:LnR l (35::(hN j 35++c::r)):=by rw[lZ1] at h;exact h
  have e:l.trimC 35=some {l with i:=l.i+1}:=by rw[h.has.trimC,if_pos rfl]
  have g:=LnR.hashes hc j k (n+1) (by omega) (LnR.skip (a:= [35]) h)
  simp only[Ln.hashes,e]
  refine g.trans ?_
  show (n+1+j,({l with i:=l.i+1+j}:Ln))=(n+(j+1),{l with i:=l.i+(j+1)})
  rw[lU3 n,lU3 l.i,lC3,lC3]
theorem LnR.heading {l:Ln}{n:Nat}{s:List UInt8}(V:1<=n/\n<=6)(h:LnR l (hN n 35++32::s)):l.heading=some (n,{l with i:=l.i+(n+1)})/\LnR {l with i:=l.i+(n+1)} s/\l.quote=none/\l.blank=false:=by
 obtain⟨j,rfl⟩: ∃j,n=j+1:=⟨n - 1,by omega⟩
 have H:LnR l (35::(hN j 35++32::s)):=by rw[lZ1] at h;exact h
 have g:=H.has
 have I:l.lead 3 false=l:=g.lead (by decide) 2 false
 have O:=LnR.skip (a:= [35]) H
 have E:=LnR.hashes (c:=32) (r:=s) (by decide) j 5 1 (by omega) O
 have y:=LnR.skip O
 rw[lG2] at y
 have U:({l with i:=l.i+1+j}:Ln).has 32 s:=y.has
 refine⟨?_,?_,?_,g.blank (by decide)⟩
 ·unfold Ln.heading
  rw[I,g.trimC,if_pos rfl]
  show (((Ln.hashes 5 1 {l with i:=l.i+1}).2.trimSp 1 1 true).map λt'=>((Ln.hashes 5 1 {l with i:=l.i+1}).1,t'))=_
  have E:Ln.hashes 5 1 {l with i:=l.i+1}=(1+j,{l with i:=l.i+1+j}):=E
  rw[E]
  show ((Ln.trimSp 1 1 true {l with i:=l.i+1+j}).map λt'=>(1+j,t'))=_
  rw[U.sp1]
  show some (1+j,({l with i:=l.i+1+j+1}:Ln))=some (j+1,{l with i:=l.i+(j+1+1)})
  rw[lR4 1 j]
  have:l.i+1+j+1=l.i+(j+1+1):=by omega
  rw[this]
 ·have:=LnR.skip (a:= [32]) y
  have e:l.i+1+j+1=l.i+(j+1+1):=by omega
  show LnR {l with i:=l.i+(j+1+1)} s
  rw[<-e];exact this
 ·unfold Ln.quote
  rw[I,g.trimC,if_neg (by decide)];rfl
theorem Bm (d5:op.task=false)(e1:op.ids=false){g0:OA->Nat->WP}{b b1 pb lv:Nat}{xs:List IN}{gs junk:List Bk}{top:Bk}{p:PS}{l b5:Ln}{m:List UInt8}{E:UInt8}(c5:Pd G op xs junk .none)(h:DocC σ b (l.at b1::L) (gs++top::junk) .none p w)(hd:p.depth=gs.length)(e7:gs.length<900000)(d1:l.ok)(g2:l.quote=none)(f2:l.heading=some (lv,b5))(b8:LnR b5 (m++ [E]))(b7:cM E=false/\E≠35)(g6:m.length<100000)(f6: ∀g∈gs++top::junk,g.D.length<=90000)(f1:(txF (gs++top::junk)).length<=90000)(c4:p.pz=kE pb)(c2:op.at pb∈L)(h2:p.lineno<1000000000)(b9: ∀w (p':PS) H V nb t,p'.base=p.base->p'.lineno=p.lineno->H.like top->H.D=top.D++(V++ [ym nb t p.lineno p.lineno lv (m++ [E])])->TDs G op V xs->(cl V).length<=(txF junk).length+1->DocC σ b L (gs++ [H]) .none p' w->R (hQ (.tuple #[])) w):
 aj.bl102 R g0 (kE b) b1 w:=by
 obtain⟨M,O,g5,h4,c3,f0,e6,⟨rfl,rfl⟩,h⟩:=h
 rw[lG0] at c3
 have e2:b5.str=m++ [E]:=by unfold Ln.str;rw[b8.sp,b8.tx];rfl
 have h:Sat σ w (p.at b::M++(l.at b1::(O++(aM (gs++top::junk)++L)))):=h.re
 refine nW 1 (by decide) h ?_ λw nb e g3 h g1=>?_
 ·intro j h6 f3 σ w L R h b9
  match j,f3 with
  |0,_=>exact iu (x:= .nilIface) h d1 g2 b9
 show callE P fj _ g3 w
 refine cH.sound ?_
 refine Sat.bx h λb2 w h=>?_
 refine Sat.bx h λy w h=>?_
 repeat (first|refine aa ?_|refine h.tk λw h=>?_|refine⟨_,h.ldA,?_⟩|refine⟨_,_,_,h.ldA,?_⟩)
 refine Sat.bx h λd3 w h=>?_
 repeat (first|refine aa ?_|refine h.tk λw h=>?_|refine⟨_,h.ldA,?_⟩|refine⟨_,_,_,h.ldA,?_⟩|refine h.stA 0 λw h=>?_|refine h.stA 1 λw h=>?_|refine h.stA 2 λw h=>?_|refine h.stA 3 λw h=>?_|refine h.stA 4 λw h=>?_|refine h.stA 5 λw h=>?_|refine h.stA 6 λw h=>?_|refine h.bx λb0 w h=>?_)
 have h:Sat σ _ ((b0,cel [hY 0] bg)::l.at d3::zLine.at y::l.at b2::(p.at b::M++(l.at b1::(nb,cel newsC e)::(O++(aM (gs++top::junk)++L))))):=h
 refine oh h.up1 d1 ?_
 rw[f2]
 intro w h
 refine⟨_,rfl,ag rfl ?_⟩
 refine oY h (.head _) b8.ok λw h=>⟨_,rfl,?_⟩
 rw[e2]
 refine tC (by simp;omega) ⟨_,rfl,?_⟩
 rw[yU b7.1]
 refine sX (by omega) b7.2 h λw h=>⟨_,rfl,?_⟩
 refine tC (by simp;omega) ⟨_,rfl,?_⟩
 rw[yU b7.1]
 refine ae (by simp only[cZ];rw[gk];simp) ?_
 unfold cH.k1
 have h:Sat σ w (p.at b::(zLine.at y::(b0,cel [hY lv] bg)::(M++(l.at b1::(O++(aM (gs++top::junk)++L)))))):=h.less [b5.at d3,l.at b2,(nb,cel newsC e)]
 refine aa ⟨_,Sat.ld h (.head _) rfl,?_⟩
 rw[c4]
 refine aa ⟨op.ids,Sat.ld h (b:=pb) (i:=0) (by simp[c2]:op.at pb∈_) rfl,?_⟩
 rw[e1]
 refine ae rfl ?_
 unfold cH.k2
 refine Sat.tk h λw h=>aa (aa ?_)
 refine⟨_,Sat.ld h (.head _) (i:=3) rfl,_,Sat.ld h (.head _) (i:=3) rfl,?_⟩
 have c8:=h
 refine Sat.bx h λI w h=>?_
 refine⟨c8.same h (.head _) (.tail _ (.head _)) 1,c8.same h (.head _) (.tail _ (.head _)) 1,?_⟩
 have h:Sat σ w ((I,cel [hY 0,hY 0] aF)::(p.at b::(zLine.at y::(b0,cel [hY lv] bg)::(M++(l.at b1::(O++(aM (gs++top::junk)++L))))))):=h
 refine h.stA 0 λw h=>?_
 refine h.stA 0 λw h=>?_
 have h:Sat σ w ((I,cel [hY p.lineno,hY p.lineno] aF)::(b0,cel [hY lv] bg)::(p.at b::(zLine.at y::(M++(l.at b1::(O++(aM (gs++top::junk)++L))))))):=by
  have h:Sat σ w ((I,cel [hY p.lineno,hY p.lineno] aF)::(p.at b::(zLine.at y::(b0,cel [hY lv] bg)::(M++(l.at b1::(O++(aM (gs++top::junk)++L))))))):=h
  exact h.re
 refine Sat.tk h λw h=>?_
 refine⟨_,Sat.ld h (.head _) (i:=0) rfl,_,Sat.ld h (.head _) (i:=1) rfl,_,Sat.ld h (.tail _ (.head _)) (i:=0) rfl,_,Sat.ld h (.head _) (i:=0) rfl,_,Sat.ld h (.head _) (i:=1) rfl,?_⟩
 have c9:=h
 have h:Sat σ _ (p.at b::O++(M++((I,cel [hY p.lineno,hY p.lineno] aF)::(b0,cel [hY lv] bg)::zLine.at y::l.at b1::(aM (gs++top::junk)++L)))):=h.re
 refine tN h f0 (by simp;omega) λw W a7 t U e8 h=>⟨_,rfl,?_⟩
 have h:Sat σ w ((I,cel [hY p.lineno,hY p.lineno] aF)::(b0,cel [hY lv] bg)::(W.at b::M++(a7++(fu t p.lineno p.lineno none 0 0 (m++ [E])::zLine.at y::l.at b1::(aM (gs++top::junk)++L))))):=h.re
 refine⟨c9.same h (.tail _ (.head _)) (.tail _ (.head _)) 1,c9.same h (.head _) (.head _) 2,?_⟩
 refine Sat.bx h λhb w h=>?_
 have h:Sat σ w (oK hb p.lineno p.lineno lv t []::(I,cel [hY p.lineno,hY p.lineno] aF)::(b0,cel [hY lv] bg)::(W.at b::M++(a7++(fu t p.lineno p.lineno none 0 0 (m++ [E])::zLine.at y::l.at b1::(aM (gs++top::junk)++L))))):=h
 generalize a6:ym hb t p.lineno p.lineno lv (m++ [E])=d
 have d4:d.own= [oK hb p.lineno p.lineno lv t []]:=by rw[<-a6];rfl
 have e4:d.txs= [⟨t,p.lineno,p.lineno,m++ [E]⟩]:=by rw[<-a6];rfl
 have e5:DocE σ b (d.own++(d.txs.map TX.chunk++(zLine.at y::l.at b1::L))) d.txs (gs++top::junk) W w:=by
  rw[d4,e4]
  refine⟨M,a7,[],[],by rw[lG0];exact c3.of (by rw[U]) (by rw[U]) (by rw[U]),?_,e6,⟨rfl,rfl⟩,?_⟩
  ·rw[lV0];exact e8
  ·show Sat σ w (W.at b::M++(a7++(aM (gs++top::junk)++([]++([oK hb p.lineno p.lineno lv t []]++([fu t p.lineno p.lineno none 0 0 (m++ [E])]++(zLine.at y::l.at b1::L)))))))
   exact h.less [(I,cel [hY p.lineno,hY p.lineno] aF),(b0,cel [hY lv] bg)]
 have d2:W.base=p.base:=by rw[U];rfl
 refine qs (pb:=pb) (c5.closeE d5 rfl) (.tail _ (.tail _ c2)) (by rw[<-c4];exact oP d2) f6 f1 e5 (by rw[U];exact hd) e7 (by rw[<-a6];rfl) c5.len λw p' H V f5 h5 f4 k1 k2 k3 k4 h=>⟨rfl,?_⟩
 obtain⟨c1,b6,g4,g7,e9,e3,e0,⟨rfl,rfl⟩,h⟩:=h
 have h:Sat σ w (zLine.at y::l.at b1::(p'.at b::c1++(b6++(aM (gs++ [H])++L)))):=h.re
 repeat (first|refine aa ?_|refine h.tk λw h=>?_|refine⟨_,h.ldA,?_⟩|refine⟨_,_,_,h.ldA,?_⟩|refine h.stA 0 λw h=>?_|refine h.stA 1 λw h=>?_|refine h.stA 2 λw h=>?_|refine h.stA 3 λw h=>?_|refine h.stA 4 λw h=>?_|refine h.stA 5 λw h=>?_|refine h.stA 6 λw h=>?_|refine h.bx λb0 w h=>?_)
 have h:Sat σ _ (zLine.at y::l.at b1::(p'.at b::c1++(b6++(aM (gs++ [H])++L)))):=h
 refine g1 _ _ h.tail λw h=>?_
 refine b9 w p' H V hb t (f5.trans d2) (f4.trans (by rw[U])) k1 (by rw[a6];exact k2) k3 k4 ⟨c1,b6,[],[],e9,e3,e0,⟨rfl,rfl⟩,h.re⟩

theorem Pd.leaf {xs:List IN}{junk:List Bk}{lf:Leaf}(h:Pd G op xs junk lf):lf= .none\/ ∃s ls,lf=oH s ls:=by
 induction h with
 |none=>exact .inl rfl
 |para _=>exact .inr ⟨_,_,rfl⟩
 |quote _ _ _ g=>exact g
 |list _ _ _ _ _ _ _ _ g=>exact g
theorem Pd.topOf {xs:List IN}{junk:List Bk}{lf:Leaf}{pre:List Bk}{f:Bk}{y:List OB}{O:List ai}(h:Pd G op xs junk lf)(W:f.np)(E:CS lf y O):
 ∃g o t v,(pre++f::junk).map Bk.ob++y=g++ [o]/\o.bd= .iface t v/\(t=ar-> ∃q,v= kT q):=by
 rcases h.leaf with rfl|⟨s,ls,rfl⟩
 ·obtain⟨rfl,_⟩:=E
  obtain⟨g,o,t,v,H,I,U⟩:=h.last rfl pre f W
  exact⟨g,o,t,v,by rw[H];simp,I,λV=>absurd V U⟩
 ·obtain⟨a6,e,rfl,_⟩:=E
  exact⟨(pre++f::junk).map Bk.ob,jO a6 s e,_,_,rfl,rfl,λ_=>⟨_,rfl⟩⟩
theorem Bv (m1:op.task=false){j0:OA->Nat->WP}{b b1 pb lb d4 v2 n:Nat}{num:Int}{it:OA}{xs d3:List IN}{gs junk:List Bk}{top f y:Bk}{lf:Leaf}{p:PS}{l l2:Ln}{x c d:UInt8}{r r2:List UInt8}(r1:Runs R j0 b b1)(g3:Pd G op d3 junk lf)(h:DocC σ b (l.at b1::L) (gs++top::f::y::junk) lf p w)(hd:p.depth=gs.length)(w5:gs.length<90000)(ht:top.box_)(v4:f.isList lb c.toNat num it)(h9:ItemOf it y lb d4 true)(t3:TDs G op y.D xs)(b6:l.has x r)(hc:xi x)(h4:l.isHR=false)(m3:pM l c v2 n l2)(h6:l2.has d r2)(s1:cM d=false)(c9: ∀k∈gs++top::f::y::junk,k.D.length<=90000)(v3:(txF (gs++top::f::y::junk)).length<=90000)(s5:p.pz=kE pb)(q0:op.at pb∈L)(r7:p.lineno<1000000000)(d0: ∀(X:OA->Nat->WP),(∀i8 i3 w,aj.bl102 R X i8 i3 w->X i8 i3 w)-> ∀w (p':PS) c5 O (I:IT) h7,p'.base=p.base->p'.lineno=p.lineno->p'.depth=p.depth+2->c5.isList lb c.toNat num h7->c5.ob.s=f.ob.s->c5.D=f.D++ [I.db]->I.ok->TDs G op I.D (xs++d3)->I.s=y.ob.s->I.e=y.ob.e->I.wd=d4->
  (cl I.D).length<=(txF (y::junk)).length+1->ItemOf h7 O lb n true->O.D= []->O.ob.s=p.lineno->O.ob.e=p.lineno->DocC σ b (l2.at b1::L) (gs++top::c5:: [O]) .none p' w->X (kE b) b1 w):aj.bl102 R j0 (kE b) b1 w:=by
 have m6:cM x=false:=hc.1
 have g7:=h6.blank s1
 have h0:=h9
 obtain⟨ib,w4,r9,w8⟩:=h9
 obtain⟨d2,o3⟩:=v4
 obtain⟨w9,w6,s3,x1,r6⟩:=ht
 obtain⟨M,b8,b9,b4,hs,t4,c8,h8,h⟩:=h
 obtain⟨y2,o,x8,y3,e5,g6,h2⟩:=g3.topOf (pre:=gs++ [top,f]) (f:=y) h0.box_.np h8
 have v7:gs++top::f::y::junk=(gs++ [top,f])++y::junk:=by simp
 have f5:((gs++top::f::y::junk).map Bk.ob++b9)[gs.length]? =some top.ob:=by rw[lM0 (by simp)];simp
 have d1:((gs++top::f::y::junk).map Bk.ob++b9)[gs.length+1]? =some f.ob:=by rw[lM0 (by simp)];simp
 have e6:((gs++top::f::y::junk).map Bk.ob++b9)[gs.length+2]? =some y.ob:=by rw[lM0 (by simp)];simp
 generalize f4:(gs++top::f::y::junk).map Bk.ob++b9=obs at hs f5 d1 e6
 rw[<-v7,f4] at e5
 have g0: ∀(k:Bk),k.IM=f.IM->k.D=f.D->aM (gs++top::k::y::junk)=aM (gs++ [top])++(f.IM++(k.own++(cX f.D++txc f.D))++aM (y::junk)):=by
  intro k k1 k2
  have:gs++top::k::y::junk=(gs++ [top])++([k]++(y::junk)):=by simp
  rw[this,bh,bh [k],dy,k1,k2]
 have f6: ∀(p2:PS) (M:List ai) (j:Nat),j<2->Stk p2 obs M->p2.depth=((gs.length+j:Nat):Int)->AL b p2 M l ci:=by
  intro p2 M j w1 e8 h1 σ w L R i0 i2
  rw[e5] at e8
  rw[e5] at d1 e6
  match j,w1 with
  |0,_=>exact kI (d:=gs.length) i0 e8 h1 (by omega) d1 d2 (by decide) g6 h2 b6.ok i2
  |1,_=>exact kI (d:=gs.length+1) i0 e8 h1 (by omega) e6 r9 (by decide) g6 h2 b6.ok i2
 have h:Sat σ w (p.at b::M++(l.at b1::(b8++(aM (gs++top::f::y::junk)++(b4++L))))):=h.re
 refine jt (l2:=l) 4 (by decide) h (js (f6 p M 0 (by decide) hs (by rw[hd];rfl)) b6 hc h4) b6.ok (b6.blank m6) λw nb e f2 h H=>?_
 show callE P cq _ f2 w
 rw[g0 f rfl rfl,o3] at h
 have h:Sat σ w (p.at b::M++(cN lb c.toNat num false it .nilFunc::(l.at b1::(nb,cel newsC e)::(b8++(aM (gs++ [top])++(f.IM++(cX f.D++txc f.D)++aM (y::junk))++(b4++L)))))):=h.re
 refine uJ (d:=gs.length) h hs hd (by omega) f5 s3 r6 d1 d2 b6.ok m3 λw a6 W U V c4 h=>?_
 rw[g7,show (!false)=true from rfl] at h
 have h:Sat σ w (l.at b1::p.at b::(M++(cN lb c.toNat num false it (kz a6 V U W)::(fp b a6 W U V lb c4 n true l2++((nb,cel newsC e)::(b8++(aM (gs++ [top])++(f.IM++(cX f.D++txc f.D)++aM (y::junk))++(b4++L)))))))):=by
  have h:Sat σ w (p.at b::M++(cN lb c.toNat num false it (kz a6 V U W)::(fp b a6 W U V lb c4 n true l2++(l.at b1::(nb,cel newsC e)::(b8++(aM (gs++ [top])++(f.IM++(cX f.D++txc f.D)++aM (y::junk))++(b4++L))))))):=h
  exact h.re
 refine H w _ p (by omega) h λw h=>?_
 refine r1 w λX s6=>?_
 let b7:PS:= {p with depth:=p.depth+1}
 let E:Bk:=⟨f.ob,[cN lb c.toNat num false it (kz a6 V U W)],f.D,f.IM⟩
 have g1:Stk b7 obs M:=hs.of rfl rfl rfl
 have h:Sat σ w (b7.at b::M++(l.at b1::(fp b a6 W U V lb c4 n true l2++((nb,cel newsC e)::(b8++(aM (gs++top::E::y::junk)++(b4++L))))))):=by
  rw[g0 E rfl rfl,show E.own= [cN lb c.toNat num false it (kz a6 V U W)] from rfl]
  have h:Sat σ w (l.at b1::b7.at b::(M++(cN lb c.toNat num false it (kz a6 V U W)::(fp b a6 W U V lb c4 n true l2++((nb,cel newsC e)::(b8++(aM (gs++ [top])++(f.IM++(cX f.D++txc f.D)++aM (y::junk))++(b4++L)))))))):=h
  exact h.re
 refine jt (l2:=l2) 4 (by decide) h (js (f6 b7 M 1 (by decide) g1 (by show p.depth+1=_;rw[hd];rfl)) b6 hc h4) h6.ok g7 λw e9 f1 v6 h o4=>?_
 show callE P cq _ v6 w
 have n3: ∀k∈(gs++ [top])++E::(y::junk),Bk.ok k:=by
  intro k H
  simp only[lD0,lO0,lW0,lD1,or_false,lR0,lT0] at H
  rcases H with H|rfl|rfl|rfl|H
  ·exact c8 _ (by simp[H])
  ·exact c8 _ (by simp)
  ·exact c8 f (by simp)
  ·exact c8 _ (by simp)
  ·exact c8 _ (by simp[H])
 have u0:gs++top::E::y::junk=(gs++ [top])++E::(y::junk):=by simp
 have g4:txF ((gs++ [top])++E::(y::junk))=txF (gs++top::f::y::junk):=by simp[txF,E]
 have o6:DocC σ b (fp b a6 W U V lb c4 n true l2++(l.at b1::(e9,cel newsC f1)::(nb,cel newsC e)::L)) ((gs++ [top])++E::(y::junk)) lf b7 w:=by
  refine⟨M,b8,b9,b4,?_,?_,n3,h8,?_⟩
  ·have:((gs++ [top])++E::(y::junk)).map Bk.ob++b9=obs:=by rw[<-f4];simp[E]
   rw[this];exact g1
  ·rw[g4];exact t4.of rfl rfl rfl
  ·rw[<-u0]
   exact h.re
 have h3: ∀k∈((gs++ [top])++ [E])++y::junk,k.D.length<=90000:=by
  intro k H
  simp only[lD0,lO0,lW0,lD1,or_false,lR0,lT0] at H
  rcases H with H|rfl|rfl|rfl|H
  ·exact c9 _ (by simp[H])
  ·exact c9 _ (by simp)
  ·exact c9 f (by simp)
  ·exact c9 _ (by simp)
  ·exact c9 _ (by simp[H])
 have t0:(txF (((gs++ [top])++ [E])++y::junk)).length<=90000:=by
  have:((gs++ [top])++ [E])++y::junk=(gs++ [top])++E::(y::junk):=by simp
  rw[this,g4];exact v3
 refine Gd (Post:=λx9 e1=>e1.ob.s=f.ob.s/\ ∃I:IT,e1.D=f.D++ [I.db]/\I.ok/\TDs G op I.D (xs++d3)/\I.s=y.ob.s/\I.e=y.ob.e/\I.wd=d4/\(cl I.D).length<=(txF (y::junk)).length+1) (l:=l) o6 ⟨d2,rfl⟩ (by show p.depth+1=_;rw[hd];simp) (by simp;omega) r7 (λd5 f2 w t5 h H=>?_) λw b5 f0 e1 b3 O m2 t8 j1 u1 m8 k0 m9 s8 o0 t2 r3 h=>?_
 ·have t9:(((gs++ [top]).length:Int)+1)=(((gs++ [top]).length+1:Nat):Int):=by omega
  rw[t9]
  refine vG h (by simp;omega) λX d0=>?_
  have h:DocC σ b d5 (((gs++ [top])++ [E])++y::junk) lf b7 w:=by simpa using h
  have m5:op.at pb∈d5:=t5 _ (lB0 _ (.tail _ (.tail _ (.tail _ q0))))
  refine g3.close m1 σ f2 d5 b pb b7 w X ((gs++ [top])++ [E]) y ((gs++ [top]).length+1) d0 m5 s5 (by simp) h3 t0 h λw f0 a7 y1 r5 s9 s7 e7 h5 r8 x6 h=>?_
  have h:DocC σ b d5 ((gs++ [top])++ [E,a7]) .none f0 w:=by simpa using h
  refine oW d0 h (by simp) ?_
  have w3:=h3 E (by simp)
  refine ud h (e7.itemOf h0).item (⟨d2,rfl⟩:E.isListT lb c.toNat num it (kz a6 V U W)) (by omega) λw c5 nb x o5 s4 w7 r4 n2 h=>⟨_,rfl,?_⟩
  refine vH d0 h (by simp) ?_
  refine H w {f0 with stn:=(gs++ [top]).length+1} c5 none ⟨s4,IT.mk nb a7.ob.s a7.ob.e a7.ob.q a7.ob.n a7.ob.c d4 a7.IM a7.D,r4,n2,?_,e7.2.1,e7.2.2.1,rfl,?_⟩ r5 s7 s9 o5 h
  ·show TDs G op a7.D (xs++d3)
   rw[h5];exact t3.append r8
  ·show (cl a7.D).length<=_
   have v8:txF (y::junk)=cl y.D++txF junk:=by simp[txF]
   rw[h5,df,v8];simp only[lA0];omega
 ·have t6:b5.depth=((gs.length+1:Nat):Int):=by rw[u1];show p.depth+1=_;rw[hd];omega
  have x4:b5.lineno=p.lineno:=j1
  obtain⟨i1,g2,w2,x7,s2,o2,m4,⟨rfl,rfl⟩,h⟩:=h
  have h:Sat σ w (l.at b1::b5.at b::(i1++(g2++(aM ((gs++ [top])++ [b3,O])++([]++((e9,cel newsC f1)::(nb,cel newsC e)::L)))))):=h.re
  refine o4 w _ b5 (by omega) h λw h=>?_
  obtain⟨u8,I,t7,v0,u2,v5,q6,q7,v9⟩:=m2
  refine d0 X s6 w {b5 with depth:=b5.depth+1} b3 O I (kE c4) t8 j1 (by show b5.depth+1=_;rw[t6,hd];omega) m8 (by rw[k0];exact u8) (by rw[m9];exact t7) v0 u2 v5 q6 q7 v9 s8 o0 t2 r3 ⟨i1,g2,[],[],?_,?_,?_,⟨rfl,rfl⟩,?_⟩
  ·have:(gs++top::b3:: [O]).map Bk.ob++ []=((gs++ [top])++ [b3,O]).map Bk.ob++ []:=by simp
   rw[this];exact s2.of rfl rfl rfl
  ·have:txF (gs++top::b3:: [O])=txF ((gs++ [top])++ [b3,O]):=by simp[txF]
   rw[this];exact o2.of rfl rfl rfl
  ·intro k H
   exact m4 k (by simpa using H)
  ·have:aM (gs++top::b3:: [O])=aM ((gs++ [top])++ [b3,O]):=by simp[aM]
   rw[this]
   exact h.less [(e9,cel newsC f1),(nb,cel newsC e)]

theorem vM (c8:op.task=false){b b1 pb W num n:Nat}{num0:Int}{b5:OA}{xs:List IN}{gs U:List Bk}{top O:Bk}{p:PS}{l t:Ln}{c c0:UInt8}(e7:Pd G op xs (O::U) .none)(c1:O.isList W c0.toNat num0 b5)(e2:c0≠c)(h:DocC σ b (l.at b1::L) (gs++top::O::U) .none p w)(hd:p.depth=gs.length)(g6:gs.length<90000)(f6: ∀g∈gs++top::O::U,g.D.length<=90000)(e6:(txF (gs++top::O::U)).length<=90000)(d5:p.pz=kE pb)(d3:op.at pb∈L)(e4:p.lineno<1000000000)(h4:l.ok)(hb:pM l c num n t)(e9: ∀w (p':PS) y b3 f lb H I E V ib,p'.base=p.base->p'.lineno=p.lineno->p'.depth=p.depth->y.like top->y.D=top.D++b3->TDs G op b3 xs->(cl b3).length<=(txF (O::U)).length+1->f.ob=⟨BK lb,none,0,0,p.lineno,p.lineno⟩->f.own= [cN lb c.toNat (num:Nat) false none (kz H V E I)]->f.D= []->f.IM= []->
  DocC σ b (l.at b1::(fp b H I E V lb ib n (!t.blank) t++L)) (gs++ [y,f]) .none p' w->R (hQ (hV true)) w):
 callE P bO #[kT (kE b),kT (kE b1)] R w:=by
 obtain⟨M,c5,g5,h2,hs,e3,d2,⟨rfl,rfl⟩,h⟩:=h
 rw[lG0] at hs
 have e1:cN W c0.toNat num0 false b5 .nilFunc∈aM (gs++top::O::U):=by
  unfold aM
  refine lS2.2 ⟨O,by simp,?_⟩
  unfold Bk.mem
  rw[c1.2];simp
 generalize b9:c5++(aM (gs++top::O::U)++L)=K
 have e5:cN W c0.toNat num0 false b5 .nilFunc∈K:=by rw[<-b9];simp[e1]
 have h:Sat σ w (l.at b1::(p.at b::M++K)):=by rw[<-b9];exact h.re
 have ht:=hb.ok
 refine hb.run h λw I H a6 t' h=>?_
 refine Sat.bx h λE w h=>?_
 refine⟨_,Sat.ld h (.tail _ (.tail _ (.head _))) (i:=0) rfl,?_⟩
 have h:Sat σ w (p.at b::M++((E,cel [kT none] az)::(H,cel [kT (kE b)] ah)::t.at I::t'.at a6::l.at b1::K)):=h.re
 refine lV (d:=gs.length) h hs hd (by omega) λw h=>⟨_,rfl,?_⟩
 rw[show ((gs++top::O::U).map Bk.ob)[gs.length+1]? =some O.ob by simp]
 dsimp only
 refine⟨kE W,true,w,by rw[c1.1];exact kG _ w,ag rfl ?_⟩
 have h:Sat σ w ((E,cel [kT none] az)::(H,cel [kT (kE b)] ah)::t.at I::(p.at b::M++(t'.at a6::l.at b1::K))):=h.re
 refine h.stA 0 λw h=>?_
 have h:Sat σ w (gP E W::(H,cel [kT (kE b)] ah)::t.at I::(p.at b::M++(t'.at a6::l.at b1::K))):=h
 refine⟨_,Sat.ld h (.head _) (i:=0) rfl,_,_,ke my _ w,ae rfl ?_⟩
 refine⟨_,Sat.ld h (.head _) (i:=0) rfl,aa ?_⟩
 refine⟨_,Sat.ld h (by simp[e5]:cN W c0.toNat num0 false b5 .nilFunc∈_) (i:=0) rfl,?_⟩
 rw[zn]
 have d0:(((c0.toNat:Nat):Int) !=((c.toNat:Nat):Int))=true:=by
  rw[bne_iff_ne]
  intro h3
  exact e2 (UInt8.toNat_inj.1 (by omega))
 refine ag d0 ?_
 refine⟨_,Sat.ld h (.head _) (i:=0) rfl,_,_,ke my _ w,ae rfl (ae rfl ?_)⟩
 refine Sat.bx h λlb w h=>?_
 have h:Sat σ w (gP E W::(lb,cel [.int .i32 (IntKind.i32.wrap (c.toNat:Nat)),hY (num:Nat),hV false,kT none,.nilFunc] fO)::(H,cel [kT (kE b)] ah)::t.at I::(p.at b::M++(t'.at a6::l.at b1::K))):=h.re
 refine h.stA 0 λw h=>?_
 rw[zn] at h
 have h:Sat σ w (gP E lb::cN lb c.toNat (num:Nat) false none .nilFunc::(H,cel [kT (kE b)] ah)::t.at I::(p.at b::M++(t'.at a6::l.at b1::K))):=h
 refine⟨_,Sat.ld h (.tail _ (.tail _ (.head _))) (i:=0) rfl,_,Sat.ld h (.head _) (i:=0) rfl,?_⟩
 have d1:DocC σ b (cN lb c.toNat (num:Nat) false none .nilFunc::(gP E lb::(H,cel [kT (kE b)] ah)::t.at I::l.at b1::L)) (gs++top::O::U) .none p w:=by
  refine⟨M,c5,[],[],by rw[lG0];exact hs,e3,d2,⟨rfl,rfl⟩,?_⟩
  rw[<-b9] at h
  exact h.less [t'.at a6]
 refine pI (pb:=pb) (e7.close c8) (.tail _ (.tail _ (.tail _ (.tail _ d3)))) d5 f6 e6 d1 hd (by omega) e4 λw p' y b3 f e8 f5 g2 k1 k2 k3 k4 c3 g0 c4 g3 h=>⟨rfl,?_⟩
 obtain⟨b6,b4,g4,g7,e0,c9,b8,⟨rfl,rfl⟩,h⟩:=h
 have c2: ∀(k:Bk),k.IM= []->k.D= []->aM (gs++ [y,k])=aM (gs++ [y])++k.own:=by
  intro k k1 k2
  rw[show gs++ [y,k]=(gs++ [y])++ [k] by simp,bh,dy,k1,k2];simp[cX,txc,cl]
 have d4:f.own= [cN lb c.toNat (num:Nat) false none .nilFunc]:=g0
 rw[c2 f g3 c4,d4] at h
 have h:Sat σ w (cN lb c.toNat (num:Nat) false none .nilFunc::t.at I::gP E lb::(p'.at b::b6++(b4++(aM (gs++ [y])++((H,cel [kT (kE b)] ah)::l.at b1::L))))):=h.re
 refine pY h ht λw V ib h=>?_
 let a7:Bk:=⟨f.ob,[cN lb c.toNat (num:Nat) false none (kz H V E I)],[],[]⟩
 refine e9 w p' y b3 a7 lb H I E V ib e8 f5 g2 k1 k2 k3 k4 c3 rfl rfl rfl ⟨b6,b4,[],[],?_,?_,?_,⟨rfl,rfl⟩,?_⟩
 ·have:(gs++ [y,a7]).map Bk.ob++ []=(gs++ [y,f]).map Bk.ob++ []:=by simp[a7]
  rw[this];exact e0
 ·have:txF (gs++ [y,a7])=txF (gs++ [y,f]):=by simp[txF,a7,c4]
  rw[this];exact c9
 ·intro k b7
  simp only[lO0,lW0,lD1,or_false] at b7
  rcases b7 with b7|rfl|rfl
  ·exact b8 k (by simp[b7])
  ·exact b8 _ (by simp)
  ·have g1:=b8 f (by simp)
   refine⟨?_,by show 0<100000;decide,g1.2.2⟩
   show Sl 1 aO f.ob.q f.ob.n f.ob.c [] []
   rw[c3];exact Sl.nil 1 aO
 ·rw[c2 a7 rfl rfl]
  show Sat σ w (p'.at b::b6++(b4++((aM (gs++ [y])++ [cN lb c.toNat (num:Nat) false none (kz H V E I)])++([]++(l.at b1::(fp b H I E V lb ib n (!t.blank) t++L))))))
  have h:Sat σ w (cN lb c.toNat (num:Nat) false none (kz H V E I)::t.at I::gP E lb::jh V ib::gh ib lb n (!t.blank)::(p'.at b::b6++(b4++(aM (gs++ [y])++((H,cel [kT (kE b)] ah)::l.at b1::L))))):=h
  unfold fp
  exact h.re
theorem zZ (h9:op.task=false){h6:OA->Nat->WP}{b b1 pb num n:Nat}{xs:List IN}{gs junk:List Bk}{top:Bk}{p:PS}{l l2:Ln}{x c d:UInt8}{r r2:List UInt8}(f5:Runs R h6 b b1)(d2:Pd G op xs junk .none)(s8:junk= []\/ ∃V W g4 c0 num0 f6,junk=V::W/\V.isList g4 (UInt8.toNat c0) num0 f6/\c0≠c)(h:DocC σ b (l.at b1::L) (gs++top::junk) .none p w)(hd:p.depth=gs.length)(m8:gs.length<90000)(ht:top.box_)(I:l.has x r)(hc:xi x)(d5:l.isHR=false)(e6:pM l c num n l2)(e4:l2.has d r2)(g2:cM d=false)(r3: ∀E∈gs++top::junk,E.D.length<=90000)(s4:(txF (gs++top::junk)).length<=90000)(o0:p.pz=kE pb)(m9:op.at pb∈L)(g1:p.lineno<1000000000)(d1: ∀(X:OA->Nat->WP),(∀h5 h4 w,aj.bl102 R X h5 h4 w->X h5 h4 w)-> ∀w (p':PS) y c8 f E lb it,p'.base=p.base->p'.lineno=p.lineno->p'.depth=p.depth+2->y.like top->y.D=top.D++c8->TDs G op c8 xs->(cl c8).length<=(txF junk).length+1->
  f.isList lb c.toNat (num:Nat) it->f.D= []->ItemOf it E lb n true->E.D= []->f.ob.s=p.lineno->E.ob.s=p.lineno->E.ob.e=p.lineno->DocC σ b (l2.at b1::L) (gs++y::f:: [E]) .none p' w->X (kE b) b1 w):
 aj.bl102 R h6 (kE b) b1 w:=by
 obtain⟨q0,s3,t1,h1,h3⟩:=ht
 rcases s8 with rfl|⟨V,W,g4,c0,num0,f6,rfl,m3,n2⟩
 ·have o4:xs= []:=by cases d2;rfl
  subst o4
  refine Bl f5 h hd (by omega) t1 h1 h3 I hc d5 e6 e4 g2 g1 λX e0 w p' f E lb it a1 a2 a3 a4 a5 s5 q8 a8 a9 a10 h=>?_
  refine d1 X e0 w p' top [] f E lb it a1 a2 a3 (.refl top) (by simp) .nil (by simp[cl]) a4 a5 s5 q8 a8 a9 a10 ?_
  simpa using h
 ·have i3:cM x=false:=hc.1
  have e9:=e4.blank g2
  have t9:=h
  obtain⟨M,d3,t4,t8,hs,o5,m6,⟨rfl,rfl⟩,h⟩:=h
  rw[lG0] at hs
  have h:Sat σ w (p.at b::M++(l.at b1::(d3++(aM (gs++top::V::W)++L)))):=h.re
  have g5:top.np:=⟨q0,s3,t1,h1⟩
  refine jt (l2:=l) 4 (by decide) h (js (nF hs hd (by omega) g5 d2.next (d2.last rfl gs top g5) I.ok) I hc d5) I.ok (I.blank i3) λw nb e h7 h c9=>?_
  show callE P cq _ h7 w
  refine cO.sound ?_
  refine Sat.bx h λb2 w h=>?_
  refine Sat.bx h λc4 w h=>?_
  have h:Sat σ w (p.at b::M++(zLn c4::l.at b2::(l.at b1::(nb,cel newsC e)::(d3++(aM (gs++top::V::W)++L))))):=by
   have h:Sat σ w (zLn c4::l.at b2::(p.at b::M++(l.at b1::(nb,cel newsC e)::(d3++(aM (gs++top::V::W)++L))))):=h
   exact h.re
  refine qt h hs hd λw h=>?_
  rw[show ((gs++top::V::W).map Bk.ob)[gs.length]? =some top.ob by simp]
  dsimp only
  refine⟨_,rfl,none,false,w,by rw[t1];exact gH h3 w,ae rfl (ae rfl ?_)⟩
  have l5:DocC σ b (l.at b2::(zLn c4::l.at b1::(nb,cel newsC e)::L)) (gs++top::V::W) .none p w:=⟨M,d3,[],[],by rw[lG0];exact hs,o5,m6,⟨rfl,rfl⟩,h.re⟩
  refine vM (pb:=pb) h9 d2 m3 n2 l5 hd m8 r3 s4 o0 (.tail _ (.tail _ (.tail _ m9))) g1 I.ok e6 λw p' y c8 f lb c5 b9 b6 b7 ib r6 g6 s2 k1 k2 k3 k4 d0 h2 r9 u0 h=>⟨_,rfl,ag rfl ?_⟩
  rw[e9,show (!false)=true from rfl] at h
  have v0:=h
  obtain⟨b4,b8,s9,t5,g3,i2,j0,⟨rfl,rfl⟩,h⟩:=h
  have h:Sat σ w (zLn c4::l.at b2::(l.at b1::p'.at b::(b4++(b8++(aM (gs++ [y,f])++(fp b c5 b9 b6 b7 lb ib n true l2++((nb,cel newsC e)::L))))))):=h.re
  repeat (first|refine aa ?_|refine h.tk λw h=>?_|refine⟨_,h.ldA,?_⟩|refine⟨_,_,_,h.ldA,?_⟩|refine h.stA 0 λw h=>?_|refine h.stA 1 λw h=>?_|refine h.stA 2 λw h=>?_|refine h.stA 3 λw h=>?_|refine h.stA 4 λw h=>?_|refine h.stA 5 λw h=>?_|refine h.stA 6 λw h=>?_|refine h.bx λb0 w h=>?_)
  have h:Sat σ _ (l.at c4::l.at b2::(l.at b1::p'.at b::(b4++(b8++(aM (gs++ [y,f])++(fp b c5 b9 b6 b7 lb ib n true l2++((nb,cel newsC e)::L))))))):=h
  refine c9 _ _ p' (by omega) h.tail.tail λw h=>?_
  refine f5 w λX e0=>?_
  let U:PS:= {p' with depth:=p'.depth+1}
  rw[lG0] at g3
  have e7:Stk U ((gs++ [y,f]).map Bk.ob) b4:=g3.of rfl rfl rfl
  have k0:Stk U ((gs++ [y]).map Bk.ob++ [f.ob]) b4:=by simpa using e7
  have e1:U.depth=(gs++ [y]).length:=by show p'.depth+1=_;rw[s2,hd];simp
  have h:Sat σ w (U.at b::b4++(l.at b1::(b8++(aM (gs++ [y,f])++(fp b c5 b9 b6 b7 lb ib n true l2++((nb,cel newsC e)::L)))))):=by
   have h:Sat σ w (l.at b1::U.at b::(b4++(b8++(aM (gs++ [y,f])++(fp b c5 b9 b6 b7 lb ib n true l2++((nb,cel newsC e)::L)))))):=h
   exact h.re
  refine jt (l2:=l2) 4 (by decide) h (js (λσ w L R r5 r7=>kH r5 k0 e1 (by simp) (by rw[d0];rfl) (by decide) I.ok r7) I hc d5) e4.ok e9 λw e3 e5 s6 h m4=>?_
  show callE P cq _ s6 w
  have m5:DocC σ b (fp b c5 b9 b6 b7 lb ib n true l2++(l.at b1::(e3,cel newsC e5)::(nb,cel newsC e)::L)) ((gs++ [y])++f:: []) .none U w:=by
   have r8:(gs++ [y])++f:: []=gs++ [y,f]:=by simp
   rw[r8]
   exact⟨b4,b8,[],[],by rw[lG0];exact e7,i2.of rfl rfl rfl,j0,⟨rfl,rfl⟩,h.re⟩
  refine Gd (Post:=λu2 d4=>d4.ob=f.ob/\d4.D= []) (l:=l) m5 ⟨by rw[d0],h2⟩ e1 (by simp;omega) (by show p'.lineno<_;omega) (λu8 h7 w t6 h c9=>?_) λw b5 u1 d4 H O i0 q4 s7 r4 i8 h8 j1 o2 m1 o3 n1 h=>?_
  ·have q5:(((gs++ [y]).length:Int)+1)=(((gs++ [y]).length+1:Nat):Int):=by omega
   rw[q5]
   refine vG h (by simp) λX d1=>?_
   refine vH d1 h (by simp) ?_
   exact c9 w U f none ⟨rfl,r9⟩ rfl rfl rfl ⟨by rw[d0],h2⟩ (by simpa using h)
  ·obtain⟨g7,e8,t0,t7,n3,m2,i1,⟨rfl,rfl⟩,h⟩:=h
   have h:Sat σ w (l.at b1::b5.at b::(g7++(e8++(aM ((gs++ [y])++ [H,O])++([]++((e3,cel newsC e5)::(nb,cel newsC e)::L)))))):=h.re
   have o6:b5.depth=((gs.length+1:Nat):Int):=by rw[r4,e1];simp
   refine m4 w _ b5 (by omega) h λw h=>?_
   obtain⟨s1,n0⟩:=i0
   have g0:U.lineno=p.lineno:=g6
   refine d1 X e0 w {b5 with depth:=b5.depth+1} y c8 H O lb (kE ib) (q4.trans r6) (s7.trans g6) (by show b5.depth+1=_;rw[o6,hd];omega) k1 k2 k3 k4 i8 (by rw[j1];exact n0) o2 m1 (by rw[h8,s1,d0]) (by rw[o3];exact g0) (by rw[n1];exact g0) ⟨g7,e8,[],[],?_,?_,?_,⟨rfl,rfl⟩,?_⟩
   ·have:(gs++y::H:: [O]).map Bk.ob++ []=((gs++ [y])++ [H,O]).map Bk.ob++ []:=by simp
    rw[this];exact n3.of rfl rfl rfl
   ·have:txF (gs++y::H:: [O])=txF ((gs++ [y])++ [H,O]):=by simp[txF]
    rw[this];exact m2.of rfl rfl rfl
   ·intro k c9
    exact i1 k (by simpa using c9)
   ·have:aM (gs++y::H:: [O])=aM ((gs++ [y])++ [H,O]):=by simp[aM]
    rw[this]
    exact h.less [(e3,cel newsC e5),(nb,cel newsC e)]

theorem contS {b b1 pb s:Nat}{c8:OA->Nat->WP}{gs:List Bk}{top:Bk}{p:PS}{ls:List (List UInt8)}{l:Ln}(h:DocC σ b (l.at b1::L) (gs++ [top]) (oH s ls) p w)(hd:p.depth=gs.length)(e0:gs.length<900000)(ht:top.box_)(W:l.cont)(e2:ls.length<1048569)(b5:p.pz=kE pb)(a7:op.at pb∈L)(c2:op.table=false)(b6:p.lineno<1000000000)(c4: ∀w,DocC σ b L (gs++ [top.setE p.lineno]) (oH s (ls++ [l.rest])) p w->R (hQ (.tuple #[])) w):aj.bl102 R c8 (kE b) b1 w:=by
 obtain⟨M,y,d5,V,hs,c1,I,⟨g,e,rfl,d4,b4,e3,e4⟩,h⟩:=h
 obtain⟨td,vd,t1,e5,d3⟩:=ht
 have h:Sat σ w (p.at b::M++(l.at b1::(y++(aM (gs++ [top])++(V++L))))):=h.re
 have a6:((gs++ [top]).map Bk.ob)[gs.length]? =some top.ob:=by simp
 refine uf h (Al (fs:=(gs++ [top]).map Bk.ob) hs rfl hd (by omega) (by simp) a6 t1 d3 (λo1 O=>?_) W) λw nb E e6 h b7=>?_
 ·rw[lT1 (by simp)] at O;cases O
 have h:Sat σ w (p.at b::M++(V++(l.at b1::(nb,cel newsC E)::(y++(aM (gs++ [top])++L))))):=h.re
 have c9:op.at pb∈l.at b1::(nb,cel newsC E)::(y++(aM (gs++ [top])++L)):=by simp[a7]
 refine uH (d:=gs.length) h hs rfl hd (by simp) b5 c9 c2 d4 (by omega) W.plain.ok λw d0 b3 U b9 h=>b7 w true ?_
 have H:Sims (gs++ [top]) (gs++ [top.setE p.lineno]):=Sims.append (Sims.refl λf c5=>(I f (by simp[c5])).2.2.2) (.cons (top.setE_sim b6) .nil)
 have b8:((gs++ [top]).map Bk.ob++ [jO g s e]).take gs.length++(((gs++ [top]).map Bk.ob++ [jO g s e]).drop gs.length).map (·.setE p.lineno)=(gs++ [top.setE p.lineno]).map Bk.ob++ [jO g s p.lineno]:=by
  have c3:(gs++ [top]).map Bk.ob++ [jO g s e]=gs.map Bk.ob++ [top.ob,jO g s e]:=by simp
  rw[c3,lQ3 (by simp),lX2 (by simp),lB2 (by simp),lF6 (by simp)]
  simp[Bk.setE,OB.setE,jO]
 rw[b8] at U
 obtain⟨d1,d2⟩:=H.mem
 refine c4 w ⟨d0,y,_,b3,U,by rw[d2];exact c1,H.ok I,⟨g,p.lineno,rfl,b9,b4,by simp,by simp;omega⟩,?_⟩
 rw[d1]
 exact h.less [l.at b1,(nb,cel newsC E)]

theorem Sl.pop {e:TypeId}{q:Option Addr}{n c:Nat}{vs:List Value}{v:Value}{M:List ai}(h:Sl 1 e q (n+1) c (vs++ [v]) M):Sl 1 e q n c vs M:=by
 obtain⟨y,E,⟨_,g,_⟩|⟨b,sp,rfl,rfl,g⟩⟩:=h
 ·omega
 ·refine⟨by simp at y;omega,by omega,.inr ⟨b,v::sp,rfl,by simp,by simpa using g⟩⟩
def AD (c:UInt8):Nat:=if c=61 then 1 else 2
def qQ (hb t s e s' e' lv:Nat)(raw:List UInt8):DB:=⟨.iface gi (kT (kE hb)),[oK hb s e lv t []],[⟨t,s',e',raw⟩]⟩

theorem xC {b nb n:Nat}{c:UInt8}{v:Int}{e:TypeId}{l:Ln}(hc:c=61\/c=45)(b3:1<=n)(y:LnR l (hN n c))(h:Sat σ w (l.at b::(nb,cel [hY v] e)::L))(I: ∀w,Sat σ w (l.at b::(nb,cel [hY (AD c:Int)] e)::L)->R (hQ (hV true)) w):callE P fk #[kT (kE b),kT (kE nb)] R w:=by
 have W:cM c=false:=by rcases hc with rfl|rfl<;>decide
 obtain⟨m,rfl⟩: ∃m,n=m+1:=⟨n - 1,by omega⟩
 have H:l.has c (hN m c):=LnR.has (by rw[<-lZ1];exact y)
 refine cP.sound ?_
 repeat (first|refine aa ?_|refine h.tk λw h=>?_|refine⟨_,h.ldA,?_⟩|refine⟨_,_,_,h.ldA,?_⟩|refine h.stA 0 λw h=>?_|refine h.stA 1 λw h=>?_|refine h.stA 2 λw h=>?_|refine h.stA 3 λw h=>?_|refine h.stA 4 λw h=>?_|refine h.stA 5 λw h=>?_|refine h.stA 6 λw h=>?_|refine h.bx λb0 w h=>?_)
 have h:Sat σ _ (l.at b0::l.at b::(nb,cel [hY v] e)::L):=h
 refine lead_ok (max:=3) h y.ok (by decide) λw h=>⟨_,rfl,?_⟩
 rw[H.lead W 2] at h
 refine lU h (.head _) y.ok λw h=>⟨_,rfl,?_⟩
 rw[H.peek,u8b _ 45 45 rfl,u8b _ 61 61 rfl]
 refine ag (by rcases hc with rfl|rfl<;>decide) ?_
 intro X E
 have O: ∀k (l2:Ln) w,LnR l2 (hN k c)->Sat σ w (l2.at b0::l.at b::(nb,cel [hY v] e)::L)->X (kE nb) b0 (c.toNat:Int) w:=by
  intro k
  induction k with
  |zero=>
   intro l2 w g h
   have g:LnR l2 []:=g
   have V:=g.lenNil
   refine E _ _ _ _ ?_
   refine trimC_ok (c:=c) rfl h g.ok ?_
   have ht:l2.trimC c=none:=by
    have a7:l2.text[l2.i]? =none:=lT1 V
    unfold Ln.trimC
    rw[if_neg (by rw[g.sp];omega),if_neg (by rw[a7];simp)]
   rw[ht]
   intro w h
   refine⟨_,rfl,ae rfl ?_⟩
   refine qF h g.ok λw h=>⟨rfl,?_⟩
   refine EH h (.head _) λw h=>⟨_,rfl,?_⟩
   have U:decide (l2.skip.text.length<=l2.skip.i)=true:=by
    have hd:=g.tx
    simp[Ln.skip,hd]
   rw[U]
   refine ag rfl ?_
   rw[u8b _ 61 61 rfl]
   have h:Sat σ w ((nb,cel [hY v] e)::l2.skip.at b0::l.at b::L):=h.re
   rcases hc with rfl|rfl
   ·refine ag rfl (aa ?_)
    refine h.stA 0 λw h=>?_
    have h:Sat σ w ((nb,cel [hY ((AD 61:Nat):Int)] e)::l2.skip.at b0::l.at b::L):=h
    exact I w (h.less [l2.skip.at b0])
   ·refine ae rfl (aa ?_)
    refine h.stA 0 λw h=>?_
    have h:Sat σ w ((nb,cel [hY ((AD 45:Nat):Int)] e)::l2.skip.at b0::l.at b::L):=h
    exact I w (h.less [l2.skip.at b0])
  |succ k a6=>
   intro l2 w g h
   have g:LnR l2 (c::hN k c):=by rw[<-lZ1];exact g
   refine E _ _ _ _ ?_
   refine trimC_ok (c:=c) rfl h g.ok ?_
   rw[g.has.trimC,if_pos rfl]
   intro w h
   refine⟨_,rfl,ag rfl ?_⟩
   exact a6 _ w (LnR.skip (a:= [c]) g) h
 exact O (m+1) l w y h
theorem A8 {nb t s e s' e' lv:Nat}{raw:List UInt8}(hs:s<1000000000)(H:e<2000000000)(y:lR (G raw))(O:ju none [] op raw (G raw)):TD G op (qQ nb t s e s' e' lv raw) (.mk {kind:=5,num:=(lv:Nat),s:=s,e:=e} (fW (G raw))):=by
 have ht:(qQ nb t s e s' e' lv raw).tree G (.mk {kind:=5,num:=(lv:Nat),s:=s,e:=e} (fW (G raw))):=by
  intro ts ht
  cases ht with
  |cons g E U=>
   cases U
   rw[<-E] at y⊢
   exact⟨_,pv (nb:=nb) (t:=t) (s:=s) (e:=e) (s':=s') (e':=e') (lv:=lv) (raw:=raw) (id:= []) g.1 (eK y g.2.2) g.2.1 (by decide),λa=>by simp[qQ,fL,wQ]⟩
 refine⟨ht,?_,.inr ⟨_,_,rfl,by decide⟩,⟨jT mM rfl (.head _),?_,hs,H⟩,λx I=>?_⟩
 ·rw[d8 (d:=qQ nb t s e s' e' lv raw) rfl (by decide)]
  exact ht
 ·show ((s:Int).toNat,(e:Int).toNat)=(s,e)
  simp
 ·obtain rfl:=lQ0.1 I
  exact O

theorem Fc (f6:op.task=false){m1:OA->Nat->WP}{b b1 pb s n:Nat}{c:UInt8}{gs:List Bk}{top:Bk}{p:PS}{ls:List (List UInt8)}{l:Ln}(h:DocC σ b (l.at b1::L) (gs++ [top]) (oH s ls) p w)(hd:p.depth=gs.length)(m6:gs.length<90000)(hc:c=61\/c=45)(f4:1<=n)(c4:LnR l (hN n c))(j0:xh G op ls)(f5: ∀g∈gs++ [top],g.D.length<=90000)(l5:(txF (gs++ [top])).length<=90000)(h6:p.pz=kE pb)(g7:op.at pb∈L)(n0:p.lineno<1000000000)(b6: ∀w (p':PS) W hb t,p'.base=p.base->p'.lineno=p.lineno->W.like top->W.D=top.D++ [qQ hb t s p.lineno s (s+ls.length - 1) (AD c) (bF [10] ls)]->s<1000000000->DocC σ b L (gs++ [W]) .none p' w->R (hQ (.tuple #[])) w):
 aj.bl102 R m1 (kE b) b1 w:=by
 have f1:cM c=false:=by rcases hc with rfl|rfl<;>decide
 have c8:l.has c (hN (n - 1) c):=LnR.has (by rw[<-lZ1,Nat.sub_add_cancel f4];exact c4)
 have m2:l.quote=none:=by unfold Ln.quote;rw[c8.lead f1 2,c8.trimC,if_neg (by rcases hc with rfl|rfl<;>decide)];rfl
 have i1:l.heading=none:=by unfold Ln.heading;rw[c8.lead f1 2,c8.trimC,if_neg (by rcases hc with rfl|rfl<;>decide)]
 have n1:=h
 obtain⟨M,U,g3,a6,hs,e3,b8,⟨b4,e,rfl,h1⟩,h⟩:=h
 have h:Sat σ w (p.at b::M++(l.at b1::(U++(aM (gs++ [top])++(a6++L))))):=h.re
 refine nW 2 (by decide) h ?_ λw b9 c3 m3 h E=>?_
 ·intro j n2 k0 σ w L R h b6
  match j,k0 with
  |0,_=>exact iu (x:= .nilIface) h c4.ok m2 b6
  |1,_=>exact ly h c4.ok i1 b6
 show callE P ci _ m3 w
 refine bK.sound ?_
 refine Sat.bx h λb2 w h=>?_
 refine Sat.bx h λI w h=>?_
 refine Sat.bx h λV w h=>?_
 repeat (first|refine aa ?_|refine h.tk λw h=>?_|refine⟨_,h.ldA,?_⟩|refine⟨_,_,_,h.ldA,?_⟩|refine h.stA 0 λw h=>?_|refine h.stA 1 λw h=>?_|refine h.stA 2 λw h=>?_|refine h.stA 3 λw h=>?_|refine h.stA 4 λw h=>?_|refine h.stA 5 λw h=>?_|refine h.stA 6 λw h=>?_|refine h.bx λb0 w h=>?_)
 have h:Sat σ _ (l.at b0::(V,cel [hY 0] bg)::zLn I::l.at b2::(p.at b::M++(l.at b1::(b9,cel newsC c3)::(U++(aM (gs++ [top])++(a6++L)))))):=h
 have h:Sat σ _ (p.at b::M++(l.at b0::(V,cel [hY 0] bg)::zLn I::l.at b2::(l.at b1::(b9,cel newsC c3)::(U++(aM (gs++ [top])++(a6++L)))))):=h.re
 refine lV (d:=gs.length) h hs hd (by omega) λw h=>?_
 rw[show ((gs++ [top]).map Bk.ob++ [jO b4 s e])[gs.length+1]? =some (jO b4 s e) by simp]
 refine⟨_,rfl,?_⟩
 refine qB (l:=(gs++ [top]).map Bk.ob) h hs (o:=jO b4 s e) rfl (λw h=>?_) (λ_=>⟨_,rfl⟩)
 rw[if_pos rfl]
 refine⟨_,rfl,_,w,qW b4 _ _ w,ag rfl ?_⟩
 have h:Sat σ _ (l.at b0::(V,cel [hY 0] bg)::(p.at b::M++(zLn I::l.at b2::(l.at b1::(b9,cel newsC c3)::(U++(aM (gs++ [top])++(a6++L))))))):=h.re
 refine xC hc f4 c4 h λw h=>⟨_,rfl,ag rfl ?_⟩
 generalize AD c=lv at h b6
 have c9:DocC σ b ((V,cel [hY lv] bg)::zLn I::l.at b1::L) (gs++ [top]) (oH s ls) p w:=⟨M,U,_,a6,hs,e3,b8,⟨b4,e,rfl,h1⟩,h.less [l.at b0,l.at b2,(b9,cel newsC c3)]⟩
 have g5:=f5 top (by simp)
 refine uc c9 j0.fin (by omega) (by omega) λw O y nb t x f0 i0 f3 c2 d5 h5 m8 h=>⟨_,rfl,?_⟩
 obtain⟨M,U,g3,a6,hs,e3,b8,⟨rfl,rfl⟩,h⟩:=h
 have e7:=b8 y (by simp)
 have a7:=e7.1
 rw[d5,lV0] at a7
 have d1:y.ob.n=top.D.length+1:=by have:=a7.1;simp at this;omega
 rw[lG0,lV0] at hs
 have hs:Stk O (gs.map Bk.ob++ [y.ob]) M:=hs
 have c5:=hs.2.1
 rw[lA0,lS0,lE0] at c5
 have e2:(gs.map Bk.ob).length=gs.length:=by simp
 obtain⟨sb,sp,d3,rfl,h7⟩:=hs.split (by simp)
 obtain⟨ib,f2,d2,d0⟩:=a7.rowAt (by omega)
 have d0:y.IM= [(ib,cel (top.D.map DB.v++ [(kf nb t s (s+ls.length - 1) (bF [10] ls)).v]++f2) aO)]:=d0
 have e8:i64.wrap (((gs.length+1:Nat):Int) - 1)=((gs.length:Nat):Int):=by rw[i64_in _ (by omega)];omega
 have e6:i64.wrap (((top.D.length+1:Nat):Int) - 1)=((top.D.length:Nat):Int):=by rw[i64_in _ (by omega)];omega
 rw[bh,dy,d5,lx,nE] at h
 have h:Sat σ w (O.at b::(sb,cel (aP (gs.map Bk.ob++ [y.ob])++sp) ay)::(y.IM++(kY nb s (s+ls.length - 1) t::(V,cel [hY lv] bg)::zLn I::l.at b1::(U++(aM gs++(y.own++(cX top.D++(txc top.D++(fu t s (s+ls.length - 1) none 0 0 (bF [10] ls)::L))))))))):=by
  have h:Sat σ w (O.at b:: [(sb,cel (aP (gs.map Bk.ob++ [y.ob])++sp) ay)]++(U++((aM gs++(y.IM++(y.own++((cX top.D++ [kY nb s (s+ls.length - 1) t])++(txc top.D++ [fu t s (s+ls.length - 1) none 0 0 (bF [10] ls)])))))++([]++((V,cel [hY lv] bg)::zLn I::l.at b1::L))))):=h
  exact h.re
 generalize e4:(kY nb s (s+ls.length - 1) t::(V,cel [hY lv] bg)::zLn I::l.at b1::(U++(aM gs++(y.own++(cX top.D++(txc top.D++(fu t s (s+ls.length - 1) none 0 0 (bF [10] ls)::L)))))))=K at h
 refine jo.sound ?_
 refine h.tk λw h=>?_
 refine aa (aa ?_)
 refine⟨_,_,_,h.ldA,?_⟩
 refine⟨_,_,_,h.ldA,?_⟩
 rw[c5,e8,d3]
 refine⟨by omega,by omega,aa ?_⟩
 refine h.tk λw h=>?_
 simp only[lK0,lN0,lC0,lL1]
 have b7:(gs.map Bk.ob++ [y.ob])[gs.length]? =some y.ob:=by rw[<-e2];exact ik (l:=gs.map Bk.ob) y.ob
 refine⟨_,_,_,Sat.ld h (.tail _ (.head _)) (fg (j:=gs.length) (f:=1) (by decide) b7),_,_,_,Sat.ld h (.tail _ (.head _)) (fg (j:=gs.length) (f:=1) (by decide) b7),?_⟩
 rw[d1,e6,d2]
 refine⟨by omega,by omega,aa ?_⟩
 simp only[lK0,lN0,lC0,lC1]
 have g6:(ib,cel (top.D.map DB.v++ [(kf nb t s (s+ls.length - 1) (bF [10] ls)).v]++f2) aO)∈O.at b::(sb,cel (aP (gs.map Bk.ob++ [y.ob])++sp) ay)::(y.IM++K):=by rw[d0];simp
 refine⟨_,Sat.ld h g6 (by rw[lD0,lH0 (by simp)];simp;rfl),⟨_,rfl,?_⟩⟩
 refine⟨_,_,_,rN _ w,ae rfl ?_⟩
 refine fD.sound ?_
 refine h.tk λw h=>?_
 refine aa (aa ?_)
 refine⟨_,_,_,h.ldA,?_⟩
 refine⟨_,_,_,h.ldA,?_⟩
 rw[c5,e8,d3]
 refine⟨by omega,by omega,aa ?_⟩
 refine h.tk λw h=>?_
 simp only[lK0,lN0,lC0,lL1]
 refine⟨_,_,_,Sat.ld h (.tail _ (.head _)) (fg (j:=gs.length) (f:=1) (by decide) b7),_,_,_,Sat.ld h (.tail _ (.head _)) (fg (j:=gs.length) (f:=1) (by decide) b7),?_⟩
 have m5:=a7.2.1
 rw[d1,e6,d2]
 refine⟨_,_,_,λw=>uy rowBlock.ht rowBlock.hi ib (top.D.length+1) y.ob.c top.D.length (by omega) (by omega) w,?_⟩
 refine Sat.st h (k:=1) rfl (by rw[lA0,aR,lA0,e2,lE0];omega) trivial rfl λw h=>?_
 let r2:OB:= {y.ob with q:=kE ib,n:=top.D.length,c:=y.ob.c}
 have h8:(aP (gs.map Bk.ob++ [y.ob])++sp).set (gs.length*4+1) (hT (kE ib) top.D.length y.ob.c)=aP (gs.map Bk.ob++ [r2])++sp:=by
  have:=kW (l:=gs.map Bk.ob) (sp:=sp) (o:=y.ob) (o':=r2) (f:=1) (v:= hT (kE ib) top.D.length y.ob.c) (by decide) rfl
  rw[e2] at this;exact this
 have d4:Stk O (gs.map Bk.ob++ [r2]) [(sb,cel (aP (gs.map Bk.ob++ [r2])++sp) ay)]:=by
  refine Stk.mk' d3 ?_ (by rw[c5];simp) (by simp;omega)
  rw[<-h7]
  simp only[lA0,aR,lE0]
 have h9:Sl 1 aO r2.q r2.n r2.c (top.D.map DB.v) y.IM:=by
  have:=a7
  rw[d1,d2] at this
  exact this.pop
 refine⟨trivial,?_⟩
 have h:Sat σ w (O.at b::(sb,cel (aP (gs.map Bk.ob++ [r2])++sp) ay)::(y.IM++K)):=by
  rw[<-h8];exact h
 have e9:kY nb s (s+ls.length - 1) t∈O.at b::(sb,cel (aP (gs.map Bk.ob++ [r2])++sp) ay)::(y.IM++K):=by rw[<-e4];simp
 have h2:(V,cel [hY lv] bg)∈O.at b::(sb,cel (aP (gs.map Bk.ob++ [r2])++sp) ay)::(y.IM++K):=by rw[<-e4];simp
 refine Sat.tk h λw h=>?_
 refine aa (aa (aa ?_))
 refine⟨_,Sat.ld h e9 (i:=0) rfl,_,Sat.ld h (.head _) (i:=3) rfl,_,Sat.ld h h2 (i:=0) rfl,_,Sat.ld h e9 (i:=2) rfl,?_⟩
 refine Sat.bx h λhb w h=>?_
 rw[f3] at h
 have h:Sat σ w (oK hb s p.lineno lv t []::O.at b::(sb,cel (aP (gs.map Bk.ob++ [r2])++sp) ay)::(y.IM++K)):=h
 generalize c1:qQ hb t s p.lineno s (s+ls.length - 1) lv (bF [10] ls)=d
 have g0:d.own= [oK hb s p.lineno lv t []]:=by rw[<-c1];rfl
 have g4:d.txs= [⟨t,s,s+ls.length - 1,bF [10] ls⟩]:=by rw[<-c1];rfl
 let H:Bk:=⟨r2,y.own,top.D,y.IM⟩
 have c9:DocE σ b (d.own++(d.txs.map TX.chunk++(zLn I::l.at b1::L))) d.txs (gs++H:: []) O w:=by
  rw[g0,g4]
  refine⟨[(sb,cel (aP (gs.map Bk.ob++ [r2])++sp) ay)],U,[],[],?_,?_,?_,⟨rfl,rfl⟩,?_⟩
  ·have:(gs++H:: []).map Bk.ob++ []=gs.map Bk.ob++ [r2]:=by simp[H]
   rw[this];exact d4
  ·have i3:txF (gs++H:: [])++ [⟨t,s,s+ls.length - 1,bF [10] ls⟩]=txF (gs++ [y]):=by
    rw[show gs++H:: []=gs++ [H] from rfl,bD,bD,dH,dH,d5,jz,lD0];rfl
   rw[i3];exact e3
  ·intro k E
   rcases lO0.1 E with E|E
   ·exact b8 k (by simp[E])
   ·obtain rfl:=lQ0.1 E
    exact⟨h9,by show top.D.length<100000;omega,e7.2.2⟩
  ·rw[show gs++H:: []=gs++ [H] from rfl,bh,dy]
   show Sat σ w (O.at b:: [(sb,cel (aP (gs.map Bk.ob++ [r2])++sp) ay)]++(U++((aM gs++(y.IM++(y.own++(cX top.D++txc top.D))))++([]++([oK hb s p.lineno lv t []]++([fu t s (s+ls.length - 1) none 0 0 (bF [10] ls)]++(zLn I::l.at b1::L)))))))
   rw[<-e4] at h
   exact h.less [kY nb s (s+ls.length - 1) t,(V,cel [hY lv] bg)]
 refine qs (pb:=pb) (G:=G) (op:=op) (xs:= []) (Pd.closeE f6 .none rfl) (.tail _ (.tail _ g7)) (by rw[<-h6];exact oP f0) (λk E=>?_) ?_ c9 (by rw[i0];exact hd) (by omega) (by rw[<-c1];rfl) (by simp) λw p' W i8 j1 n3 i2 k1 k2 k3 k4 h=>⟨rfl,?_⟩
 ·rcases lO0.1 E with E|E
  ·exact f5 k (by simp[E])
  ·obtain rfl:=lQ0.1 E
   exact g5
 ·have:txF (gs++H:: [])=txF (gs++ [top]):=by rw[show gs++H:: []=gs++ [H] from rfl,bD,bD,dH,dH]
  rw[this];exact l5
 obtain rfl:i8= []:=by cases k3;rfl
 obtain⟨e5,e0,m4,m9,d4,g1,g2,⟨rfl,rfl⟩,h⟩:=h
 have h:Sat σ w (zLn I::l.at b1::(p'.at b::e5++(e0++(aM (gs++ [W])++L)))):=h.re
 repeat (first|refine aa ?_|refine h.tk λw h=>?_|refine⟨_,h.ldA,?_⟩|refine⟨_,_,_,h.ldA,?_⟩|refine h.stA 0 λw h=>?_|refine h.stA 1 λw h=>?_|refine h.stA 2 λw h=>?_|refine h.stA 3 λw h=>?_|refine h.stA 4 λw h=>?_|refine h.stA 5 λw h=>?_|refine h.stA 6 λw h=>?_|refine h.bx λb0 w h=>?_)
 have h:Sat σ _ (zLn I::l.at b1::(p'.at b::e5++(e0++(aM (gs++ [W])++L)))):=h
 refine E _ _ h.tail λw h=>?_
 refine b6 w p' W hb t (j1.trans f0) (i2.trans f3) ⟨k1.1.trans c2.1,k1.2.1.trans c2.2.1,k1.2.2.1.trans c2.2.2.1,k1.2.2.2.trans c2.2.2.2⟩ (by rw[c1];exact k2) h5 ⟨e5,e0,[],[],d4,g1,g2,⟨rfl,rfl⟩,h.re⟩

theorem sM {xs I:Array Value}: ∀ {fs:List Field} {gs:List (TypeId × Nat)},fs.map (λf=>(f.name== "_",f.type,f.offset))=gs.map (λy=>(false,y.1,y.2))->
 (∀y∈gs,∃u v r,(part y.1 xs y.2).run P w= .ok u w/\(part y.1 I y.2).run P w= .ok v w/\(Op.equalIn 9999 y.1 u v).run P w= .ok r w)->
 (∃y∈gs,∃u v,(part y.1 xs y.2).run P w= .ok u w/\(part y.1 I y.2).run P w= .ok v w/\(Op.equalIn 9999 y.1 u v).run P w= .ok false w)->(Op.eqFields 9999 xs I fs).run P w= .ok false w
 | [],[],_,_,hx=>by obtain⟨y,H,_⟩:=hx;cases H
 | [],y::gs,h,_,_=>by simp at h
 |f::fs,[],h,_,_=>by simp at h
 |f::fs,y::gs,h,H,hx=>by
  simp only[lU1,lU0,Prod.mk.injEq] at h
  obtain⟨⟨b3,a6,b8⟩,b4⟩:=h
  obtain⟨u,v,r,O,V,W⟩:=H y (lY1 ..)
  have b7:f.name≠ "_" :=by simpa using b3
  have a7:r=true->(Op.eqFields 9999 xs I fs).run P w= .ok false w:=by
   intro hr
   refine sM b4 (λU E=>H U (lQ1 _ E)) ?_
   obtain⟨U,E,b6,b5,a1,a2,a3⟩:=hx
   rcases lW0.1 E with rfl|E
   ·rw[O] at a1;rw[V] at a2
    cases a1;cases a2
    rw[W,hr] at a3
    cases a3
   ·exact⟨U,E,b6,b5,a1,a2,a3⟩
  rw[<-a6,<-b8] at O V
  rw[<-a6] at W
  simp only[Op.eqFields,ne_eq,b7,not_false_eq_true,if_true,lX0,O,V,W,lJ0]
  cases r with
  |true=>simp only[Bool.not_true,lE3,if_false];exact a7 rfl
  |false=>simp
theorem Dw {l m:Ln}(I:l.text≠m.text)(x H:Operand)(w:World):(do eqGuard .neq aW x H l.val m.val;binOp .neq aW l.val m.val).run P w= .ok (hV true) w:=by
 have E:(eqGuard .neq aW x H l.val m.val).run P w= .ok () w:=run_eqGuard_agg w .neq aW x H _ _ (by kernel_rfl)
 have hb:=run_neq_struct (P:=P) w aW #[hY l.sp,hY l.i,hY l.tab,hX (bs l.text),.int .u8 l.nl.toNat] #[hY m.sp,hY m.i,hY m.tab,hX (bs m.text),.int .u8 m.nl.toNat]
 have O:(Op.equalIn 10000 aW (.agg #[hY l.sp,hY l.i,hY l.tab,hX (bs l.text),.int .u8 l.nl.toNat]) (.agg #[hY m.sp,hY m.i,hY m.tab,hX (bs m.text),.int .u8 m.nl.toNat])).run P w= .ok false w:=by
  rw[run_equalIn_struct w 9999 aW _ _ (by kernel_rfl) (by kernel_rfl)]
  refine sM (gs:= [(bg,0),(bg,1),(bg,2),(aq,3),(dx,4)]) tP ?_ ⟨(aq,3),by simp,?_⟩
  ·intro U E
   simp only[lW0,lW5,or_false] at E
   rcases E with rfl|rfl|rfl|rfl|rfl
   ·exact vm pP rfl rfl
   ·exact vm pP rfl rfl
   ·exact vm pP rfl rfl
   ·exact FS rfl rfl
   ·exact vm Ej rfl rfl
  ·refine⟨hX (bs l.text),hX (bs m.text),jB mw (λ_ h=>by cases h) (λ_ _ h=>by cases h) rfl w,jB mw (λ_ h=>by cases h) (λ_ _ h=>by cases h) rfl w,?_⟩
   have e:((bs l.text).toList==(bs m.text).toList)=false:=by
    rw[cZ,cZ]
    simpa using I
   refine(run_equalIn_string w 9998 aq (bs l.text) (bs m.text) mw).trans ?_
   rw[e]
 rw[lX0,E,lJ0]
 refine hb.trans ?_
 rw[O];rfl
theorem wS {X:OA->Nat->WP}(d5: ∀b9 b8 w,aj.bl1 R X b9 b8 w->X b9 b8 w){b b1 j:Nat}{p:PS}{ob:List OB}{o:OB}{M:List ai}{l l2:Ln}{ok:Bool}{Post:PS->List ai->Prop}(h:Sat σ w (l.at b1::(p.at b::M++L)))(hs:Stk p ob M)(hd:p.depth=j)(e6:j<1000000)(I:ob[j+1]? =some o)(e3:l.ok)(hb:l.blank=false)(c2: ∀p2 g,Post p2 g->p2= {p with corner:=p2.corner})(d2:ok=true\/l2.text≠l.text)(e1: ∀(c1:Ending->World->Prop) b0 w,Sat σ w (l.at b0::l.at b1::(p.at b::M++L))->(∀w p2 g,Post p2 g->Sat σ w (l.at b0::l.at b1::(p2.at b::M++g))->c1 (hQ (.tuple #[l2.val,hV ok])) w)->cY P (callMethod o.bd "pub-paratext/pub/rscmarkdown.extend" #[kT (kE b),l.val]) c1 w)
 (c8:ok=true-> ∀w p2 g y,Post p2 g->Stk ({p2 with depth:=(j:Int)+1}:PS) (ob.set (j+1) (o.setE p.lineno)) y->Sat σ w (l2.at b1::(({p2 with depth:=(j:Int)+1}:PS).at b::y++g))->X (kE b) b1 w)
 (c3:ok=false-> ∀w p2 g y,Post p2 g->Stk p2 (ob.set (j+1) (o.setE p.lineno)) y->Sat σ w (l2.at b1::(p2.at b::y++g))->aj.k2 R (kE b) b1 w):X (kE b) b1 w:=by
 have b4:=(lL0.1 I).1
 have d4:=hs.2.2
 have O:=hs.2.1
 have e5:=hs
 obtain⟨sb,sp,a6,b6,d1⟩:=hs.split (by intro e0;rw[e0] at b4;simp at b4)
 refine d5 _ _ _ ?_
 have h:Sat σ w (l.at b1::p.at b::(M++L)):=h
 refine Sat.tk h λw h=>aa (aa ?_)
 refine⟨_,Sat.ld h (.tail _ (.head _)) (i:=5) rfl,_,_,_,Sat.ld h (.tail _ (.head _)) (i:=4) rfl,?_⟩
 rw[hd,i64_in _ (by omega),O]
 refine ag (by simp;omega) ?_
 refine⟨_,h.ldA,?_⟩
 refine⟨_,h.ldA,?_⟩
 refine⟨_,h.ldA,?_⟩
 refine⟨_,h.ldA,?_⟩
 refine⟨_,h.ldA,?_⟩
 refine Sat.bx h λb0 w h=>?_
 refine h.stA 0 λw h=>?_
 refine h.stA 0 λw h=>?_
 refine h.stA 0 λw h=>?_
 refine h.stA 0 λw h=>?_
 refine h.stA 0 λw h=>?_
 have h:Sat σ w (l.at b0::l.at b1::p.at b::(M++L)):=h
 refine Sat.tk h λw h=>aa (aa ?_)
 refine⟨_,_,_,Sat.ld h (.tail _ (.tail _ (.head _))) (i:=4) rfl,_,Sat.ld h (.tail _ (.tail _ (.head _))) (i:=5) rfl,?_⟩
 rw[hd,i64_in _ (by omega),O,a6]
 refine⟨by omega,by omega,aa ?_⟩
 have b3:((j:Int)+1).toNat=j+1:=by omega
 rw[b3]
 simp only[lK0,lN0]
 have c4:(sb,cel (aP ob++sp) ay)∈(l.at b0::l.at b1::p.at b::(M++L)):=by rw[b6];simp
 refine⟨o.bd,Sat.ld h c4 (fg (j:=j+1) (f:=0) (by decide) I),?_⟩
 have H:l.at b1∈(l.at b0::l.at b1::p.at b::(M++L)):= .tail _ (.head _)
 refine⟨_,Sat.ld h H (i:=0) rfl,_,Sat.ld h H (i:=1) rfl,_,Sat.ld h H (i:=2) rfl,_,Sat.ld h H (i:=3) rfl,_,Sat.ld h H (i:=4) rfl,?_⟩
 refine e1 _ b0 w h λw p2 g W h=>⟨_,_,_,_,_,_,rfl,?_⟩
 have E:=c2 p2 g W
 have b5:p2.depth=j:=by rw[E];exact hd
 have c9:p2.stn=ob.length:=by rw[E];exact O
 have d0:p2.stq=kE sb:=by rw[E];exact a6
 have d3:p2.lineno=p.lineno:=by rw[E]
 have e4:p2.stc=p.stc:=by rw[E]
 have h:Sat σ w (l.at b0::l.at b1::(p2.at b::M++g)):=h
 refine h.stA 1 λw h=>?_
 refine h.stA 1 λw h=>?_
 refine h.stA 1 λw h=>?_
 refine h.stA 1 λw h=>?_
 refine h.stA 1 λw h=>?_
 have h:Sat σ w (l.at b0::l2.at b1::(p2.at b::M++g)):=h
 refine dC h (.head _) e3 λw h=>⟨_,rfl,?_⟩
 rw[hb]
 have b7: ∀(a7:Bool) w,Sat σ w (l.at b0::l2.at b1::p2.at b::(M++g))->(∀w y,Stk p2 (ob.set (j+1) (o.setE p.lineno)) y->Sat σ w (l.at b0::l2.at b1::p2.at b::(y++g))->
  br (!a7) (aj.k2 R (kE b) b1 w) (aj.k3 R X (kE b) b1 w))->aj.k1 R X (kE b) b1 a7 true w:=by
  intro a7 w h e2
  refine ag rfl (h.tk λw h=>aa (aa (aa ?_)))
  have V:p2.at b∈(l.at b0::l2.at b1::p2.at b::(M++g)):= .tail _ (.tail _ (.head _))
  refine⟨_,_,_,Sat.ld h V (i:=4) rfl,_,Sat.ld h V (i:=5) rfl,_,Sat.ld h V (i:=3) rfl,?_⟩
  rw[b5,i64_in _ (by omega),c9,d0,d3]
  refine⟨by omega,by omega,aa ?_⟩
  rw[b3]
  simp only[lK0,lN0,lL1]
  have h:Sat σ w ((sb,cel (aP ob++sp) ay)::l.at b0::l2.at b1::p2.at b::g):=by
   rw[b6] at h
   exact h.re
  refine Sat.st h (k:=0) rfl (by rw[lA0,aR];omega) trivial rfl λw h=>?_
  rw[uw I] at h
  have h:Sat σ w ((sb,cel (aP (ob.set (j+1) (o.setE p.lineno))++sp) ay)::l.at b0::l2.at b1::p2.at b::g):=h
  refine e2 w [(sb,cel (aP (ob.set (j+1) (o.setE p.lineno))++sp) ay)] ?_ h.re
  have c5:=Stk.setE (p:=p) (m:=p.lineno) a6 O d4 d1 I
  exact c5.of (by rw[E]) (by rw[E]) (by rw[E])
 cases ok with
 |true=>
  refine ag rfl (ag rfl ?_)
  refine b7 true w h λw y U h=>ae rfl ?_
  unfold aj.k3
  refine aa ⟨_,Sat.ld h (.tail _ (.tail _ (.head _))) (i:=5) rfl,aa ?_⟩
  rw[b5,i64_in _ (by omega)]
  refine Sat.st h (k:=2) rfl (by simp[PS.cells]) trivial rfl λw h=>?_
  have h:Sat σ w (l.at b0::l2.at b1::({p2 with depth:=(j:Int)+1}:PS).at b::(y++g)):=h
  exact c8 rfl w p2 g y W (U.of rfl rfl rfl) (h.less [l.at b0])
 |false=>
  refine ag rfl (ae rfl ?_)
  have h:Sat σ w (l.at b0::l2.at b1::p2.at b::(M++g)):=h
  refine⟨_,h.ldA,?_⟩
  refine⟨_,h.ldA,?_⟩
  refine⟨_,h.ldA,?_⟩
  refine⟨_,h.ldA,?_⟩
  refine⟨_,h.ldA,?_⟩
  refine⟨_,h.ldA,?_⟩
  refine⟨_,h.ldA,?_⟩
  refine⟨_,h.ldA,?_⟩
  refine⟨_,h.ldA,?_⟩
  refine⟨_,h.ldA,?_⟩
  refine⟨true,w,Dw (d2.resolve_left (by decide)) (.tmp 55) (.tmp 56) w,?_⟩
  refine b7 false w h λw y U h=>ag rfl ?_
  exact c3 rfl w p2 g y W U (h.less [l.at b0])

theorem Dg {f:Nat}{s:List UInt8}(hs: ∀c∈s,c≠(96:UInt8)):tH 96 (hN f 96++s)=f:=by
 induction f with
 |zero=>
  cases s with
  |nil=>rfl
  |cons c s=>simp[tH,lB3,hs c (by simp)]
 |succ f g=>
  simp only[tH,lZ1,lR0,lB3,beq_self_eq_true,if_true,lF0]
  exact congrArg (· +1) g
theorem lX {c:UInt8}(h:AE c=true):c≠96/\c≠92/\c≠38/\cM c=false/\c<128/\spB c=false:=by
 have hd: ∀c:Fin 256,AE (UInt8.ofNat c.val)=true->UInt8.ofNat c.val≠96/\UInt8.ofNat c.val≠92/\UInt8.ofNat c.val≠38/\cM (UInt8.ofNat c.val)=false/\UInt8.ofNat c.val<128/\spB (UInt8.ofNat c.val)=false:=by decide+kernel
 have:=hd ⟨c.toNat,c.toNat_lt⟩
 simpa using this (by simpa using h)
theorem mK {p:UInt8->Bool}{s:List UInt8}(h: ∀c∈s,p c=false):gj p s=s:=by
 have g: ∀ {t:List UInt8},(∀c∈t,p c=false)->t.dropWhile p=t:=by
  intro t ht
  cases t with
  |nil=>rfl
  |cons c t=>rw[lA3,ht c (by simp)];rfl
 unfold gj vE
 rw[g h,g (λc hc=>h c (by simpa using hc)),lK6]

def n5 (g s e:Nat):OB:=⟨.iface gG (kT (kE g)),none,0,0,s,e⟩
theorem yF {b U s e:Nat}{p:PS}{ob:List OB}{par:OB}{M I IM:List ai}{inner:List Value}{F info:List UInt8}{ls:List (List UInt8)}(h:Sat σ w (p.at b::M++(IM++(I++L))))(hs:Stk p (ob++ [par]++ [n5 U s e]) M)(c5:Sl 1 aO par.q par.n par.c inner IM)(b9:par.n<1000000)(c2:xl U F info ls I)(c1: ∀w p' a7 V nb q c g E H x,p'= {p with stn:=ob.length+1}->Stk p' (ob++ [{par with q:=E,n:=par.n+1,c:=H}]) a7->Sl 1 aq q ls.length c (sv ls) g->
  Sl 1 aO E (par.n+1) H (inner++ [.iface cJ (kT (kE nb))]) V->Sat σ w (p'.at b::a7++(V++(AK nb s e F info q ls.length c::(g++L))))->R (hQ x) w):
 callE P aI #[kT (kE b)] R w:=by
 refine pC (ob:=ob) (par:=par) (o:=n5 U s e) (IM:=IM) (inner:=inner) (λb3 a6 W q=> ∃nb y c g,b3=p/\Sl 1 aq y ls.length c (sv ls) g/\a6=AK nb s e F info y ls.length c::(g++L)/\W=cJ/\q=kE nb) h hs rfl c5 b9 ?_ ?_
 ·intro c8 w h c4
  have h:Sat σ w (p.at b::M++(I++(IM++L))):=h.re
  refine bm uK ?_
  refine yw h hs c2 λw nb q c g O h=>?_
  have h:Sat σ w (p.at b::M++(AK nb s e F info q ls.length c::(g++(IM++L)))):=h
  exact c4 w p _ cJ _ rfl rfl rfl (by decide) ⟨nb,q,c,g,rfl,O,rfl,rfl,rfl⟩ (h.re)
 ·intro w p2 c3 b7 b3 a6 W q E H b4 b6 b8 b5 h
  obtain⟨nb,y,c,g,rfl,O,rfl,rfl,rfl⟩:=b4
  exact c1 w p2 c3 b7 nb y c g E H _ b6 b8 O b5 h
def mp (nb s e:Nat)(F info:List UInt8)(q:Option Addr)(n c:Nat)(g:List ai):DB:=⟨.iface cJ (kT (kE nb)),AK nb s e F info q n c::g,[]⟩

theorem LnR.strip {c:UInt8}{r:List UInt8}(hc:cM c=false): ∀(k m n:Nat) {l:Ln},k<=m->LnR l (hN k 32++c::r)->l.strip m n=(n+k,{l with i:=l.i+k})
 |0,0,n,l,_,h=>by simp[Ln.strip]
 |0,m+1,n,l,_,h=>by
  have h:LnR l (c::r):=h
  have e:l.trimSp 1 1 false=none:=by unfold Ln.trimSp;rw[h.has.tsGo hc];rfl
  simp[Ln.strip,e]
 |k+1,0,n,l,hk,h=>absurd hk (by omega)
 |k+1,m+1,n,l,hk,h=>by
  have h:LnR l (32::(hN k 32++c::r)):=by rw[lZ1] at h;exact h
  have e:l.trimSp 1 1 false=some {l with i:=l.i+1}:=LnR.tsPad (mn:=1) (e:=false) (s:=hN k 32++c::r) 1 0 h
  have g:=LnR.strip hc k m (n+1) (by omega) (LnR.skip (a:= [32]) h)
  simp only[Ln.strip,e]
  refine g.trans ?_
  show (n+1+k,({l with i:=l.i+1+k}:Ln))=(n+(k+1),{l with i:=l.i+(k+1)})
  rw[lU3 n,lU3 l.i,lC3,lC3]
theorem sK {f:Nat}{word:List UInt8}{l:Ln}(b7:3<=f)(E: ∀c∈word,AE c=true)(a6:LnR l (hN f 96++word)):
 ¬ xk l/\(∀n c t info,rh l n c t info->n=f/\c=96/\info=word)/\(l.strip 3 0).1=0/\rh l f 96 word word:=by
 obtain⟨y,rfl⟩: ∃y,f=y+1:=⟨f - 1,by omega⟩
 have b3:l.has 96 (hN y 96++word):=LnR.has (by rw[lZ1] at a6;exact a6)
 have H:l.strip 3 0=(0,l):=b3.strip (by decide)
 have hr:tH 96 (hN (y+1) 96++word)=y+1:=Dg λc hc=>(lX (E c hc)).1
 have a7: ∀t,UnE (gj cM word) t->t=word:=by
  intro t ht
  have b5:gj cM word=word:=mK λc hc=>(lX (E c hc)).2.2.2.1
  rw[b5] at ht
  exact ht.2 λc hc=>⟨(lX (E c hc)).2.1,(lX (E c hc)).2.2.1⟩
 have U: ∀n,n=y+1->(hN (y+1) (96:UInt8)++word).drop n=word:=by
  intro n b6
  subst b6
  rw[lX2 (by simp),lF6 (by simp)];rfl
 have W:l.peek=96:=b3.peek
 have I:l.text.drop l.i=hN (y+1) 96++word:=a6.tx
 have V: ∀n,l.text.drop (l.i+n)=(hN (y+1) (96:UInt8)++word).drop n:=λn=>by rw[<-lK5,I]
 have b4:gj cM word=word:=mK λc hc=>(lX (E c hc)).2.2.2.1
 refine⟨?_,?_,by rw[H],?_⟩
 rotate_left 2
 ·unfold rh
  rw[H]
  simp only[W,I,V,hr]
  rw[U _ rfl,b4]
  refine⟨.inl ?_,b7,?_,?_,⟨by omega,λ_=>rfl⟩,?_,λ_ O=>(lX (E 96 O)).1 rfl⟩<;>trivial
 ·unfold xk
  rw[H]
  simp only[W,I,V,hr]
  rintro (⟨h,_⟩|h|⟨_,t,ht,O⟩)
  ·exact h rfl
  ·omega
  ·rw[U _ rfl] at ht
   rw[a7 t ht] at O
   exact(lX (E 96 O)).1 rfl
 ·intro n c t info
  unfold rh
  rw[H]
  simp only[W,I,V]
  rintro ⟨h1,h2,h3,h4,h5,h6,h7⟩
  subst h3
  rw[hr] at h4
  subst h4
  rw[U _ rfl] at h5
  have:=a7 t h5
  subst this
  exact⟨rfl,rfl,h6.trans (mK λc hc=>(lX (E c hc)).2.2.2.1)⟩
def C1 (s e:Nat)(F info:List UInt8)(ls:List (List UInt8)):Leaf:= .other λob M=> ∃g,ob= [n5 g s e]/\xl g F info ls M/\s<1000000000
theorem zS (e8:op.task=false){o0:OA->Nat->WP}{b b1 pb f:Nat}{xs:List IN}{gs junk:List Bk}{top:Bk}{p:PS}{l:Ln}{word:List UInt8}{ec:ai}(c8:Pd G op xs junk .none)(h:DocC σ b (l.at b1::L) (gs++top::junk) .none p w)(hd:p.depth=gs.length)(d4:gs.length<900000)(ht:top.box_)(b8:LnR l (hN f 96++word))(g1:l.text.length<100000)(n3:3<=f)(o6:f<50000)(c5: ∀c∈word,AE c=true)(o5:word.length<10000)(k0:Ay ec)(c4:ec∈L)(j1: ∀g∈gs++top::junk,g.D.length<=90000)(n2:(txF (gs++top::junk)).length<=90000)(h5:p.pz=kE pb)(g7:op.at pb∈L)(e0:p.lineno<1000000000)(U: ∀w (p':PS) E a7,p'.base=p.base->p'.lineno=p.lineno->E.like top->E.D=top.D++a7->TDs G op a7 xs->(cl a7).length<=(txF junk).length+1->DocC σ b L (gs++ [E]) (C1 p.lineno p.lineno (hN f 96) word []) p' w->R (hQ (.tuple #[])) w):
 aj.bl102 R o0 (kE b) b1 w:=by
 obtain⟨l5,i3,n1,_⟩:=sK n3 c5 b8
 have V:=b8.ok
 have a6:l.has 96 (hN (f - 1) 96++word):=LnR.has (by
  have e:f=(f - 1)+1:=by omega
  rw[e,lZ1] at b8
  exact b8)
 have b4: ∀e,l.lead 3 e=l:=a6.lead (by decide) 2
 have h0:(l.lead 3 false).peek=96:=by rw[b4];exact a6.peek
 have o2:l.quote=none:=by unfold Ln.quote;rw[b4,a6.trimC,if_neg (by decide)];rfl
 have h8:l.heading=none:=by unfold Ln.heading;rw[b4,a6.trimC,if_neg (by decide)]
 have g4:l.isHR=false:=by
  unfold Ln.isHR
  simp only[b4,a6.peek]
  rw[if_neg (by decide)]
 have h2:LDecl l:=LDecl.of_peek V (by rw[a6.strip (by decide),a6.peek];decide)
 obtain⟨e3,e7,t1,m3,n0⟩:=ht
 have e1:top.np:=⟨e3,e7,t1,m3⟩
 obtain⟨M,c9,o4,p1,b6,h7,g6,⟨rfl,rfl⟩,h⟩:=h
 rw[lG0] at b6
 have h:Sat σ w (p.at b::M++(l.at b1::(c9++(aM (gs++top::junk)++L)))):=h.re
 have g2:=nF (b:=b) (l:=l) b6 hd d4 e1 c8.next (c8.last rfl gs top e1) V
 refine nW 6 (by decide) h ?_ λw nb e2 d1 h m8=>?_
 ·intro j p3 m5 σ w L R h U
  match j,m5 with
  |0,_=>exact iu (x:= .nilIface) h V o2 U
  |1,_=>exact ly h V h8 U
  |2,_=>exact g2 σ w L R h U
  |3,_=>exact rA h V g4 U
  |4,_=>exact h2 b gs.length p _ top.ob M e3 e7 b6 hd (by simp) t1 n0 σ w L R h U
  |5,_=>exact nH h V (by rw[h0];decide) U
 show callE P j6 _ d1 w
 generalize e5:l.at b1::(nb,cel newsC e2)::(c9++(aM (gs++top::junk)++L))=K at h
 have c4:ec∈K:=by rw[<-e5];simp[c4]
 refine dP.sound ?_
 refine Sat.bx h λb2 w h=>?_
 refine Sat.bx h λy w h=>?_
 refine Sat.bx h λI w h=>?_
 refine Sat.bx h λH w h=>?_
 refine Sat.bx h λO w h=>?_
 repeat (first|refine aa ?_|refine h.tk λw h=>?_|refine⟨_,h.ldA,?_⟩|refine⟨_,_,_,h.ldA,?_⟩|refine h.stA 0 λw h=>?_|refine h.stA 1 λw h=>?_|refine h.stA 2 λw h=>?_|refine h.stA 3 λw h=>?_|refine h.stA 4 λw h=>?_|refine h.stA 5 λw h=>?_|refine h.stA 6 λw h=>?_|refine h.bx λb0 w h=>?_)
 have h:Sat σ _ (l.at b0::(O,cel [hY 0] bg)::(H,cel [hX (bs [])] aq)::(I,cel [hX (bs [])] aq)::(zLn y::l.at b2::(p.at b::(M++K)))):=h
 refine oX h V g1 k0 (by simp[c4]) (λh9=>absurd h9 l5) λn c t info i0 w h=>?_
 obtain⟨rfl,rfl,rfl⟩:=i3 n c t info i0
 rw[n1] at h
 refine⟨_,rfl,ag rfl ?_⟩
 refine⟨_,Sat.ld h (.tail _ (.tail _ (.tail _ (.head _)))) (i:=0) rfl,by decide,by simp;omega,?_⟩
 have h1:bt (bs (hN n (96:UInt8))) 0=96:=by
  have:=pE (l:=hN n (96:UInt8)) (i:=0) (by simp;omega)
  rw[show ((0:Nat):Int)=0 from rfl] at this
  rw[this];simp
 refine ae (by rw[h1];rfl) (ae rfl ?_)
 have h:Sat σ w ((O,cel [hY ((0:Nat):Int)] bg)::(H,cel [hX (bs info)] aq)::(I,cel [hX (bs (hN n 96))] aq)::zLn y::(Ln.zero.at b0::l.at b2::(p.at b::(M++K)))):=h.re
 have k4: ∀w,Sat σ w ((O,cel [hY ((0:Nat):Int)] bg)::(H,cel [hX (bs info)] aq)::(I,cel [hX (bs (hN n 96))] aq)::zLn y::(Ln.zero.at b0::l.at b2::(p.at b::(M++K))))->dP.k4 d1 (kE b) y I H O w:=by
  intro w h
  refine⟨_,Sat.ld h (.tail _ (.tail _ (.head _))) (i:=0) rfl,_,Sat.ld h (.tail _ (.head _)) (i:=0) rfl,_,Sat.ld h (.head _) (i:=0) rfl,?_⟩
  refine Sat.bx h λW w h=>?_
  have h:Sat σ w (oT W (hN n 96) info none 0 0::(O,cel [hY ((0:Nat):Int)] bg)::(H,cel [hX (bs info)] aq)::(I,cel [hX (bs (hN n 96))] aq)::zLn y::(Ln.zero.at b0::l.at b2::(p.at b::(M++K)))):=h
  have g3:DocC σ b (oT W (hN n 96) info none 0 0::(zLn y::l.at b1::L)) (gs++top::junk) .none p w:=by
   refine⟨M,c9,[],[],by rw[lG0];exact b6,h7,g6,⟨rfl,rfl⟩,?_⟩
   rw[<-e5] at h
   exact h.less [(O,cel [hY ((0:Nat):Int)] bg),(H,cel [hX (bs info)] aq),(I,cel [hX (bs (hN n 96))] aq),Ln.zero.at b0,l.at b2,(nb,cel newsC e2)]
  refine pI (pb:=pb) (c8.close e8) (.tail _ (.tail _ g7)) h5 j1 n2 g3 hd d4 e0 λw p' E a7 c1 m4 i1 p4 k1 k2 k3 k4 j0 m6 m9 i8 h=>⟨rfl,?_⟩
  have i2:gs++ [E,c1]=(gs++ [E])++ [c1]:=by simp
  rw[i2] at h
  have m2:(λ(ob:List OB) (M:List ai)=>ob= [n5 W p.lineno p.lineno]/\xl W (hN n 96) info [] M) [c1.ob] c1.own:=⟨by rw[j0];rfl,by rw[m6];exact⟨none,0,[],Sl.nil 1 aq,rfl⟩⟩
  have h:=DocC.toLeaf (A:=λ(ob:List OB) (M:List ai)=>ob= [n5 W p.lineno p.lineno]/\xl W (hN n 96) info [] M) h m9 i8 m2
  obtain⟨d0,c3,o3,c2,h6,f0,g0,⟨rfl,f5⟩,h⟩:=h
  have h:Sat σ w (zLn y::l.at b1::(p'.at b::d0++(c3++(aM (gs++ [E])++(c2++L))))):=h.re
  repeat (first|refine aa ?_|refine h.tk λw h=>?_|refine⟨_,h.ldA,?_⟩|refine⟨_,_,_,h.ldA,?_⟩|refine h.stA 0 λw h=>?_|refine h.stA 1 λw h=>?_|refine h.stA 2 λw h=>?_|refine h.stA 3 λw h=>?_|refine h.stA 4 λw h=>?_|refine h.stA 5 λw h=>?_|refine h.stA 6 λw h=>?_|refine h.bx λb0 w h=>?_)
  have h:Sat σ _ (zLn y::l.at b1::(p'.at b::d0++(c3++(aM (gs++ [E])++(c2++L))))):=h
  refine m8 _ _ h.tail λw h=>?_
  exact U w p' E a7 m4 i1 k1 k2 k3 k4 ⟨d0,c3,_,c2,h6,f0,g0,⟨W,rfl,f5,e0⟩,h.re⟩
 have k2:dP.k2 d1 (kE b) y I H O w:=by
  refine⟨_,Sat.ld h (.tail _ (.head _)) (i:=0) rfl,?_⟩
  refine Dn h λw e6 h=>?_
  intro X e4
  have h4: ∀k i w,i+k=info.length->Sat σ w ((e6,.stringIter (bs info) i)::((O,cel [hY ((0:Nat):Int)] bg)::(H,cel [hX (bs info)] aq)::(I,cel [hX (bs (hN n 96))] aq)::zLn y::(Ln.zero.at b0::l.at b2::(p.at b::(M++K)))))->X (kE b) y I H O (kT (kE e6)) w:=by
   intro k
   induction k with
   |zero=>
    intro i w hi h
    exact e4 _ _ _ _ _ _ _ (.inl ⟨_,Dv h (by simp;omega),k4 w h.tail⟩)
   |succ k m1=>
    intro i w hi h
    have d3:i<info.length:=by omega
    have g5:i<(bs info).size:=by simpa using d3
    have hc:=lX (c5 info[i] (lP1 d3))
    have f6:info[i].toNat<128:=lI6.1 hc.2.2.2.2.1
    refine e4 _ _ _ _ _ _ _ (.inr (Fo h g5 (by show info[i].toNat<128;exact f6) λw h=>?_))
    show callE P dF #[.int .i32 ((info[i].toNat:Nat):Int)] _ w
    refine lB hc.2.2.2.2.1 ⟨_,rfl,ae hc.2.2.2.2.2 (m1 (i+1) w (by omega) h)⟩
  exact h4 info.length 0 w (by omega) h
 refine⟨_,Sat.ld h (.tail _ (.head _)) (i:=0) rfl,?_⟩
 by_cases hi:info= []
 ·refine ae (by rw[hi,cZ,gk];rfl) (ae rfl k2)
 ·refine ag (by rw[cZ,gk];simpa using hi) ?_
  have d2:0<info.length:=lY0.2 hi
  refine⟨_,Sat.ld h (.tail _ (.head _)) (i:=0) rfl,λ_=>⟨by decide,by simp;omega⟩,?_⟩
  have d5:=pE (l:=info) (i:=0) d2
  rw[show ((0:Nat):Int)=0 from rfl] at d5
  rw[d5]
  refine yi ⟨_,rfl,?_⟩
  rw[c5 info[0] (lP1 d2)]
  exact ae rfl k2

theorem DL {X:OA->Nat->WP}(a7: ∀b5 b3 w,aj.bl1 R X b5 b3 w->X b5 b3 w){b b1 s e:Nat}{p:PS}{gs:List Bk}{F info:List UInt8}{ls:List (List UInt8)}{l:Ln}{ec:ai}(h:DocC σ b (l.at b1::L) gs (C1 s e F info ls) p w)(hd:p.depth+1=gs.length)(e4:0<gs.length/\gs.length<900000)(b9:l.ok)(hb:l.blank=false)(d2:l.text.length<100000)(c4:ls.length<1048576)(e0:Ay ec)(c8:ec∈L)(b7:vt F l)(d4: ∀w (p':PS),p'.base=p.base->p'.lineno=p.lineno->DocC σ b L gs (C1 s p.lineno F info (ls++ [l.str])) p' w->R (hQ (.tuple #[])) w):X (kE b) b1 w:=by
 obtain⟨M,I,e3,b4,hs,d1,c2,⟨E,rfl,d5,c3⟩,h⟩:=h
 have c5:p.depth=((gs.length - 1:Nat):Int):=by omega
 have c9:(gs.map Bk.ob++ [n5 E s e])[gs.length - 1+1]? =some (n5 E s e):=by
  rw[show gs.length - 1+1=gs.length by omega];simp
 have c1:(gs.map Bk.ob++ [n5 E s e]).set (gs.length - 1+1) ((n5 E s e).setE p.lineno)=gs.map Bk.ob++ [n5 E s p.lineno]:=by
  rw[show gs.length - 1+1=gs.length by omega,lO1 _ _ (by simp),lS0,lW1]
  rfl
 have h:Sat σ w (l.at b1::(p.at b::M++(b4++(I++(aM gs++L))))):=h.re
 refine wS (l2:=Ln.zero) (ok:=true) (Post:=λp2 b8=>p2= {p with corner:=p2.corner}/\ ∃g,xl E F info (ls++ [l.str]) g/\b8=g++(I++(aM gs++L))) a7 h hs c5 (by omega) c9 b9 hb (λ_ _ h=>h.1) (.inl rfl) (λe5 b0 w h e1=>?_) (λ_ w p2 b8 W d3 O h=>?_) (λV=>absurd V (by decide))
 ·refine bm ou ?_
  have h:Sat σ _ (p.at b::(b4++(l.at b0::l.at b1::(M++(I++(aM gs++L)))))):=h.re
  refine qU h d5 b9 c4 d2 e0 (by simp[c8]) (λ_ w p2 g y U h=>?_) (λV=>absurd b7 V) (.inl b7)
  exact e1 w p2 _ ⟨y,g,U,rfl⟩ h.re
 ·obtain⟨y,g,U,rfl⟩:=d3
  rw[c1] at O
  have e2:((gs.length - 1:Nat):Int)+1=(gs.length:Nat):=by omega
  rw[e2] at O h
  generalize H:({p2 with depth:=(gs.length:Nat)}:PS)=p3 at h O
  have d0:p3.depth=(gs.length:Nat):=by rw[<-H]
  have a6:=O.2.1
  rw[lA0,lS0,lE0] at a6
  refine a7 _ _ _ ?_
  have h:Sat σ w (Ln.zero.at b1::p3.at b::(W++(g++(I++(aM gs++L))))):=h
  refine Sat.tk h λw h=>aa (aa ?_)
  refine⟨_,Sat.ld h (.tail _ (.head _)) (i:=5) rfl,_,_,_,Sat.ld h (.tail _ (.head _)) (i:=4) rfl,?_⟩
  have b6:i64.wrap (p3.depth+1)=((gs.length+1:Nat):Int):=by rw[d0,i64_in _ (by omega)];omega
  rw[b6,a6]
  refine ae (by simp) ?_
  unfold aj.k2
  refine dC (l:=Ln.zero) h (.head _) ⟨by decide,by decide,by decide,by decide⟩ λw h=>⟨_,rfl,?_⟩
  refine ag rfl (aa ⟨_,Sat.ld h (.tail _ (.head _)) (i:=5) rfl,?_⟩)
  rw[b6]
  have h:Sat σ w (p3.at b::(Ln.zero.at b1::(W++(g++(I++(aM gs++L)))))):=h.re
  refine og h (by rw[a6]) λw h=>⟨rfl,?_⟩
  refine d4 w p3 (by rw[<-H,y];rfl) (by rw[<-H,y]) ⟨W,I,_,g,O,d1.of (by rw[<-H,y]) (by rw[<-H,y]) (by rw[<-H,y]),c2,⟨E,rfl,U,c3⟩,?_⟩
  exact h.less [Ln.zero.at b1]
theorem Cw {b s e:Nat}{p:PS}{gs:List Bk}{top:Bk}{F info:List UInt8}{ls:List (List UInt8)}(h:DocC σ b L (gs++ [top]) (C1 s e F info ls) p w)(d0:top.D.length<=90000)(b9: ∀w H nb q c y x,H.like top->H.D=top.D++ [mp nb s e F info q ls.length c y]->Sl 1 aq q ls.length c (sv ls) y->s<1000000000->DocC σ b L (gs++ [H]) .none {p with stn:=gs.length+1} w->R (hQ x) w):
 callE P aI #[kT (kE b)] R w:=by
 obtain⟨M,O,c8,c2,hs,b8,V,⟨c4,rfl,c1,b5⟩,h⟩:=h
 have hs:Stk p (gs.map Bk.ob++ [top.ob]++ [n5 c4 s e]) M:=by simpa using hs
 obtain⟨U,b4⟩:=V top (by simp)
 have c9:top.ob.n=top.D.length:=by have:=U.1;simp at this;omega
 rw[bh,dy] at h
 have h:Sat σ w (p.at b::M++(top.IM++(c2++(O++(aM gs++(top.own++(cX top.D++(txc top.D++L)))))))):=h.re
 refine yF (ob:=gs.map Bk.ob) (par:=top.ob) h hs U (by omega) c1 λw p' a6 I nb q c y a7 b3 x b6 W c3 b7 h=>?_
 have c5:p'= {p with stn:=gs.length+1}:=by rw[b6,lS0]
 rw[c5] at W h
 refine b9 w ⟨{top.ob with q:=a7,n:=top.ob.n+1,c:=b3},top.own,top.D++ [mp nb s e F info q ls.length c y],I⟩ nb q c y x ⟨rfl,rfl,rfl,rfl⟩ rfl c3 b5 ⟨a6,O,[],[],?_,?_,?_,⟨rfl,rfl⟩,?_⟩
 ·rw[lV0,lG0];exact W
 ·have:txF (gs++ [⟨{top.ob with q:=a7,n:=top.ob.n+1,c:=b3},top.own,top.D++ [mp nb s e F info q ls.length c y],I⟩])=txF (gs++ [top]):=by
   rw[bD,bD,dH,dH,jz];simp[mp]
  rw[this];exact b8.of rfl rfl rfl
 ·intro g E
  rcases lO0.1 E with E|E
  ·exact V g (by simp[E])
  ·obtain rfl:=lQ0.1 E
   exact⟨by rw[lV0];exact b7,by simp;omega,b4.2⟩
 ·rw[bh,dy,lx,nE]
  show Sat σ w (_::a6++(O++(aM gs++(I++(top.own++((cX top.D++(AK nb s e F info q ls.length c::y))++(txc top.D++ []))))++([]++L))))
  exact h.re
theorem FL {X:OA->Nat->WP}(d5: ∀b4 b3 w,aj.bl1 R X b4 b3 w->X b4 b3 w){b b1 s e:Nat}{p:PS}{gs:List Bk}{top:Bk}{F info:List UInt8}{ls:List (List UInt8)}{l:Ln}{ec:ai}(h:DocC σ b (l.at b1::L) (gs++ [top]) (C1 s e F info ls) p w)(hd:p.depth=gs.length)(f6:gs.length<900000)(b6:l.ok)(hb:l.blank=false)(d4:l.text.length<100000)(c9:ls.length<1048576)(e3:Ay ec)(d0:ec∈L)(e8: ¬ vt F l)(d1:CT F l)(e2:top.D.length<=90000)(e1: ∀w (p':PS) I nb q c O,p'.base=p.base->p'.lineno=p.lineno->I.like top->I.D=top.D++ [mp nb s p.lineno F info q ls.length c O]->Sl 1 aq q ls.length c (sv ls) O->s<1000000000->DocC σ b L (gs++ [I]) .none p' w->R (hQ (.tuple #[])) w):X (kE b) b1 w:=by
 obtain⟨M,E,f4,y,hs,d3,c5,⟨H,rfl,a7,c8⟩,h⟩:=h
 have d2:((gs++ [top]).map Bk.ob++ [n5 H s e])[gs.length+1]? =some (n5 H s e):=by simp
 have b8:((gs++ [top]).map Bk.ob++ [n5 H s e]).set (gs.length+1) ((n5 H s e).setE p.lineno)=(gs++ [top]).map Bk.ob++ [n5 H s p.lineno]:=by
  rw[lO1 _ _ (by simp),lS0,lA0,lE0,lW1]
  rfl
 have b7:Ln.zero.text≠l.text:=by
  intro g
  have:l.blank=true:=by unfold Ln.blank;rw[<-g,show Ln.zero.text= [] from rfl,List.drop_nil];rfl
  rw[hb] at this;cases this
 have h:Sat σ w (l.at b1::(p.at b::M++(y++(E++(aM (gs++ [top])++L))))):=h.re
 refine wS (l2:=Ln.zero) (ok:=false) (Post:=λp2 b5=>p2=p/\b5=y++(E++(aM (gs++ [top])++L))) d5 h hs hd (by omega) d2 b6 hb (λ_ _ h=>by rw[h.1]) (.inr b7) (λg3 b0 w h e7=>?_) (λg=>absurd g (by decide)) (λ_ w p2 b5 V e0 U h=>?_)
 ·refine bm ou ?_
  have h:Sat σ _ (p.at b::(y++(l.at b0::l.at b1::(M++(E++(aM (gs++ [top])++L)))))):=h.re
  refine qU h a7 b6 c9 d4 e3 (by simp[d0]) (λg=>absurd g e8) (λ_ w h=>?_) (.inr d1)
  exact e7 w p _ ⟨rfl,rfl⟩ h.re
 ·obtain⟨rfl,rfl⟩:=e0
  rw[b8] at U
  unfold aj.k2
  have h:Sat σ w (Ln.zero.at b1::p2.at b::(V++(y++(E++(aM (gs++ [top])++L))))):=h
  refine dC (l:=Ln.zero) h (.head _) ⟨by decide,by decide,by decide,by decide⟩ λw h=>⟨_,rfl,?_⟩
  refine ag rfl (aa ⟨_,Sat.ld h (.tail _ (.head _)) (i:=5) rfl,?_⟩)
  have e6:i64.wrap (p2.depth+1)=((gs.length+1:Nat):Int):=by rw[hd,i64_in _ (by omega)];omega
  rw[e6]
  have b9:DocC σ b (Ln.zero.at b1::L) (gs++ [top]) (C1 s p2.lineno F info ls) p2 w:=⟨V,E,_,y,U,d3,c5,⟨H,rfl,a7,c8⟩,h.re⟩
  refine aG.sound ?_
  have W:=U.2.1
  simp only[lA0,lS0,lF0,lK1] at W
  refine aa ?_
  have h:Sat σ w (p2.at b::(Ln.zero.at b1::(V++(y++(E++(aM (gs++ [top])++L)))))):=h.re
  refine⟨_,_,_,h.ldA,?_⟩
  rw[W]
  refine ae (by simp;omega) ?_
  intro Y a6
  refine a6 _ _ _ (aa ?_)
  refine⟨_,_,_,h.ldA,?_⟩
  rw[W]
  refine ag (by simp;omega) ?_
  refine Cw b9 e2 λw I nb q c O x e4 f0 e5 e9 h=>⟨_,rfl,?_⟩
  have h:=h.drop
  have g:=h
  obtain⟨g2,f5,f1,g1,g0,f3,f2,⟨rfl,rfl⟩,h⟩:=h
  refine a6 _ _ _ (aa ?_)
  refine⟨_,_,_,h.ldA,?_⟩
  refine ae (by simp) ⟨rfl,?_⟩
  exact e1 w {p2 with stn:=gs.length+1} I nb q c O rfl rfl e4 f0 e5 e9 g
theorem E4 {nb s e:Nat}{F info:List UInt8}{q:OA}{c:Nat}{ls:List (List UInt8)}{g:List ai}(O:Sl 1 aq q ls.length c (sv ls) g)(U:ls.length<1048576)(hb:(dK ls).length<1073741824)(y:ls.head? ≠some [])(I:F.length<1073741824)(hi:info.length<1073741824)(hs:s<1000000000)(E:e<2000000000):
 TD G op (mp nb s e F info q ls.length c g) (.mk {kind:=7,text:=dK ls,title:=info,mark:=F,s:=s,e:=e} []):=by
 have ht:(mp nb s e F info q ls.length c g).tree G (.mk {kind:=7,text:=dK ls,title:=info,mark:=F,s:=s,e:=e} []):=by
  intro ts ht
  refine⟨_,Ag (nb:=nb) (s:=s) (e:=e) O U hb y I hi,λa=>?_⟩
  cases ht
  simp[mp,fL]
 refine⟨ht,?_,.inr ⟨_,_,rfl,by decide⟩,⟨jT pa rfl (.head _),?_,hs,E⟩,λx H=>by simp[mp] at H⟩
 ·rw[d8 (d:=mp nb s e F info q ls.length c g) rfl (by decide)]
  exact ht
 ·show ((s:Int).toNat,(e:Int).toNat)=(s,e)
  simp

def OkL (ec:ai)(op:Opt)(Q:List DB->Prop):List (List UInt8)->Nat->List Bk->Leaf->Prop
 | [],_,fs,lf=>pO op fs lf Q
 |l::rem,n,fs,lf=> ∀nl,pK [ec] op (n+1) l nl fs lf (OkL ec op Q rem (n+1))
theorem xJ {gs0 fs:List Bk}{top0:Bk}(h:Sims (gs0++ [top0]) fs): ∃gs top,fs=gs++ [top]/\Sims gs0 gs/\top0.sim top:=by
 obtain⟨a,c,rfl,E,g⟩:=uz h
 cases g with
 |cons k y=>cases y;exact⟨a,_,rfl,E,k⟩
theorem z6 {ec:ai}{n:Nat}{nl:UInt8}{cx:List CX}{s:List UInt8}{root top:Bk}{cf gs junk:List Bk}{lf:Leaf}{J:List Bk->Leaf->Prop}(c3:FrS cx cf)(c4:root.isRoot)(U:root::cf=gs++ [top])(e5: ∀a c b3,cx=a++c::b3->(ctx (c::b3) s).all cM=false)(f3:cx.length<1000)(c9:(ctx cx s).length<100000)(d4: ∀(σ:Out) (R:Ending->World->Prop) (L:List ai) (b b1 pb:Nat) (p:PS) (w:World) (X:OA->Nat->WP) (y:List Bk) (E V:Bk) (g:List Bk) (l2:Ln),(∀b9 b7 w,aj.bl1 R X b9 b7 w->X b9 b7 w)->ec∈L->op.at pb∈L->p.pz=kE pb->p.lineno=n+1->n+1<1000000000->
  Sims gs y->top.sim E->FrX (n+1) cx g->V.isRoot->V::g=y++ [E]->LnR l2 s->l2.text.length<100000->p.depth=y.length->y.length=gs.length->DocC σ b (l2.at b1::L) (y++E::junk) lf p w->
  (∀w (p':PS) O I,p'.base=p.base->p'.lineno=p.lineno->J O I->DocC σ b L O I p' w->R (hQ (.tuple #[])) w)->X (kE b) b1 w):
 pK [ec] op (n+1) (ctx cx s) nl (gs++top::junk) lf J:=by
 intro σ R L b pb p w d3 d2 e3 b4 f0 h e7
 have e0:ec∈L:=d3 ec (.head _)
 have a7:LnR (BI (ctx cx s) nl) (ctx cx s):=⟨BH (by omega),rfl,rfl⟩
 have W:(BI (ctx cx s) nl).text.length<100000:=c9
 generalize BI (ctx cx s) nl=l at a7 W⊢
 have f1:=c3.len
 have d5:gs++top::junk= [root]++(cf++junk):=by
  have:gs++top::junk=(gs++ [top])++junk:=by simp
  rw[this,<-U];simp
 rw[d5] at h
 obtain⟨M,c2,c8,b8,hs,ht,a6,e6,h⟩:=h
 refine aj.sound ?_
 refine Sat.bx h λb1 w h=>?_
 repeat (first|refine aa ?_|refine h.tk λw h=>?_|refine⟨_,h.ldA,?_⟩|refine⟨_,_,_,h.ldA,?_⟩|refine h.stA 0 λw h=>?_|refine h.stA 1 λw h=>?_|refine h.stA 2 λw h=>?_|refine h.stA 3 λw h=>?_|refine h.stA 4 λw h=>?_|refine h.stA 5 λw h=>?_|refine h.stA 6 λw h=>?_|refine h.bx λb0 w h=>?_)
 let H:PS:= {p with depth:=0}
 have h:Sat σ _ (l.at b1::H.at b::(M++(c2++(aM ([root]++(cf++junk))++(b8++L))))):=h
 have hd:DocC σ b (l.at b1::L) ([root]++(cf++junk)) lf H _:=⟨M,c2,c8,b8,hs.of rfl rfl rfl,ht.of rfl rfl rfl,a6,e6,h.re⟩
 intro X b6
 refine F7 b6 cx [root] cf H l _ c3 hd rfl ⟨by simp,by simp;omega⟩ a7 e5 (by show p.lineno<_;omega) λw g l2 k1 k2 k3 k4 h=>?_
 have d0:Sims (gs++ [top]) (root::g):=by
  rw[<-U]
  exact .cons (Bk.sim.rfl' (a6 root (by simp)).2.2.2) k1
 obtain⟨y,E,b5,c1,e8⟩:=xJ d0
 have d1:=c1.len
 have f2:gs.length=cf.length:=by have:=congrArg List.length U;simp at this;omega
 have e9: [root]++(g++junk)=y++E::junk:=by
  have: [root]++(g++junk)=(root::g)++junk:=by simp
  rw[this,b5];simp
 rw[e9] at h
 have c5:l2.text.length<100000:=by rw[k4];exact W
 have e4:FrX (n+1) cx g:=by have:=k2;rw[show H.lineno=n+1 from b4] at this;exact this
 refine d4 σ R L b b1 pb {H with depth:=(([root].length+cf.length:Nat):Int) - 1} w X y E root g l2 b6 e0 d2 e3 b4 f0 c1 e8 e4 c4 b5 k3 c5 (by show (([root].length+cf.length:Nat):Int) - 1=_;simp;omega) d1 h λw p' O I a1 a2 a3 h=>?_
 exact e7 w p' O I a1 a2 a3 h

def Bk.lk (f g:Bk):Prop:=f.ob.bd=g.ob.bd/\f.ob.s=g.ob.s/\f.own=g.own
theorem Bk.sim.lk {f y:Bk}(h:f.sim y):y.lk f:=by
 obtain⟨⟨m,g⟩,E,_⟩:=h
 exact⟨by rw[g];rfl,by rw[g];rfl,E⟩
theorem Bk.like.lk {f g:Bk}(h:g.like f):g.lk f:=⟨h.1,h.2.1,h.2.2.2⟩
theorem Bk.lk.trans {f H k:Bk}(E:f.lk H)(y:H.lk k):f.lk k:=⟨E.1.trans y.1,E.2.1.trans y.2.1,E.2.2.trans y.2.2⟩
theorem Bk.like.root {f g:Bk}(h:g.like f)(hr:f.isRoot):g.isRoot:=by
 obtain⟨y,E,r2⟩:=hr
 exact⟨y,h.1.trans E,h.2.2.2.trans r2⟩
theorem FrS.relast {cs:List CX}{fs:List Bk}(h:FrS cs fs): ∀(a:List Bk) (t t':Bk),fs=a++ [t]->t'.like t->FrS cs (a++ [t']):=by
 induction h with
 |nil=>intro a t t' e;simp at e
 | @q cs fs f hq h2 ih=>
  intro a t t' e E
  cases a with
  |nil=>
   simp only[lT0,lU0] at e
   obtain⟨rfl,rfl⟩:=e
   cases h2
   exact .q (E.quote hq) .nil
  |cons x a=>
   simp only[lR0,lU0] at e
   obtain⟨rfl,e⟩:=e
   exact .q hq (ih a t t' e E)
 | @i cs fs f g lb w bul num it hf hg hw h2 ih=>
  intro a t t' e E
  cases a with
  |nil=>simp at e
  |cons x a=>
   simp only[lR0,lU0] at e
   obtain⟨rfl,e⟩:=e
   cases a with
   |nil=>
    simp only[lT0,lU0] at e
    obtain⟨rfl,rfl⟩:=e
    cases h2
    exact .i hf (E.itemOf hg) hw .nil
   |cons H a=>
    simp only[lR0,lU0] at e
    obtain⟨rfl,e⟩:=e
    exact .i hf hg hw (ih a t t' e E)
theorem Dl {cx:List CX}{root top g:Bk}{cf gs:List Bk}(I:FrS cx cf)(hr:root.isRoot)(y:root::cf=gs++ [top])(O:g.like top): ∃E H,E::H=gs++ [g]/\E.isRoot/\FrS cx H:=by
 cases gs with
 |nil=>
  simp only[lT0,lU0] at y
  obtain⟨rfl,rfl⟩:=y
  exact⟨g,[],rfl,O.root hr,by cases I;exact .nil⟩
 |cons x gs=>
  simp only[lR0,lU0] at y
  obtain⟨rfl,e⟩:=y
  exact⟨root,gs++ [g],rfl,hr,I.relast gs top g e O⟩
theorem ctxQ: ∀(cs:List CX),cs.getLast? =some .q->(ctx cs []).all cM=false
 | [],h=>by simp at h
 | .q::cs,h=>rfl
 | .i w::cs,h=>by
  cases cs with
  |nil=>simp at h
  |cons c cs=>
   have g:=ctxQ (c::cs) (by rw[lT2] at h;exact h)
   have y:ctx (c::cs) []≠ []:=by intro E;rw[E] at g;cases g
   show (if ctx (c::cs) []= [] then [] else hN w 32++ctx (c::cs) []).all cM=false
   rw[if_neg y,vn];exact g
theorem zy: ∀ {cs:List CX},(∀c∈cs,c≠ .q)->ctx cs []= []
 | [],_=>rfl
 | .q::cs,h=>absurd rfl (h .q (.head _))
 | .i w::cs,h=>by
  show (if ctx cs []= [] then [] else hN w 32++ctx cs [])= []
  rw[if_pos (zy λc hc=>h c (.tail _ hc))]
theorem zx: ∀cx:List CX,∃g y,cx=g++y/\(∀c∈y,c≠ .q)/\(g= []\/g.getLast? =some .q)
 | []=>⟨[],[],rfl,(λc hc=>by cases hc),.inl rfl⟩
 |c::cx=>by
  obtain⟨g,y,rfl,H,E⟩:=zx cx
  rcases E with rfl|E
  ·cases c with
   |q=>exact⟨[.q],y,rfl,H,.inr rfl⟩
   |i w=>
    refine⟨[],.i w::y,rfl,λc hc=>?_,.inl rfl⟩
    rcases lW0.1 hc with rfl|hc
    ·intro h;cases h
    ·exact H c hc
  ·refine⟨c::g,y,rfl,H,.inr ?_⟩
   cases g with
   |nil=>simp at E
   |cons d g=>rw[lT2];exact E
theorem nbQ {y:List CX}(h:y= []\/y.getLast? =some .q): ∀a c g,y=a++c::g->(ctx (c::g) []).all cM=false:=by
 intro a c g e
 rcases h with rfl|h
 ·simp at e
 ·refine ctxQ _ ?_
  rw[e,lD4] at h
  cases E:(c::g).getLast? with
  |none=>simp at E
  |some x=>rw[E] at h;exact h
theorem EK (g0:op.task=false){ec:ai}{n:Nat}{nl:UInt8}{cx:List CX}{root top:Bk}{cf gs junk:List Bk}{lf:Leaf}{pend:List IN}{J:List Bk->Leaf->Prop}(m5:FrS cx cf)(f6:root.isRoot)(c4:root::cf=gs++ [top])(h2:cx.length<1000)(g3:(ctx cx []).length<100000)(m1:Pd G op pend junk lf)(n2:junk.length<100000)(d4: ∀E∈gs++top::junk,E.D.length<=90000)(m6:(txF (gs++top::junk)).length<=90000)(k0: ∀H I U c8 c3 b8 b7 c5,Sims gs H->I.lk top->FrS cx c5->b7.isRoot->b7::c5=H++ [I]->I.D=top.D++c8->TDs G op c8 c3->Pd G op b8 U .none->c3++b8=pend->(U.length<=junk.length/\ ∀N,(∀E∈junk,E.D.length<=N)-> ∀E∈U,E.D.length<=N+1)->(txF (H++I::U)).length<=(txF (gs++top::junk)).length+1->
  (U= []\/ ∃f rest lb num it,∃bul:UInt8,U=f::rest/\f.isList lb bul.toNat num it/\ ∃x,pend= [x]/\x.h.char= [bul])->(∀wd,cx.getLast? =some (.i wd)->I.ob.e=top.ob.e)->J (H++I::U) .none):
 pK [ec] op (n+1) (ctx cx []) nl (gs++top::junk) lf J:=by
 intro σ R L b pb p w o0 h5 h8 n3 o3 h m2
 obtain⟨b3,b5,rfl,e8,f1⟩:=zx cx
 have g5:ctx (b3++b5) []=ctx b3 []:=by rw[nT,zy e8]
 rw[g5] at g3⊢
 obtain⟨W,y,rfl,e6,d2⟩:=m5.split
 have f0:LnR (BI (ctx b3 []) nl) (ctx b3 []):=⟨BH (by omega),rfl,rfl⟩
 generalize BI (ctx b3 []) nl=l at f0⊢
 rw[lA0] at h2
 have m9:=e6.len
 have f5:=d2.len
 have h9:gs++top::junk= [root]++(W++(y++junk)):=by
  have:gs++top::junk=(gs++ [top])++junk:=by simp
  rw[this,<-c4];simp
 have o2:=h
 rw[h9] at h
 obtain⟨M,f4,g1,f2,hs,ht,b9,i1,h⟩:=h
 refine aj.sound ?_
 refine Sat.bx h λb1 w h=>?_
 repeat (first|refine aa ?_|refine h.tk λw h=>?_|refine⟨_,h.ldA,?_⟩|refine⟨_,_,_,h.ldA,?_⟩|refine h.stA 0 λw h=>?_|refine h.stA 1 λw h=>?_|refine h.stA 2 λw h=>?_|refine h.stA 3 λw h=>?_|refine h.stA 4 λw h=>?_|refine h.stA 5 λw h=>?_|refine h.stA 6 λw h=>?_|refine h.bx λb0 w h=>?_)
 let b4:PS:= {p with depth:=0}
 have h:Sat σ _ (l.at b1::b4.at b::(M++(f4++(aM ([root]++(W++(y++junk)))++(f2++L))))):=h
 have hd:DocC σ b (l.at b1::L) ([root]++(W++(y++junk))) lf b4 _:=⟨M,f4,g1,f2,hs.of rfl rfl rfl,ht.of rfl rfl rfl,b9,i1,h.re⟩
 intro X d5
 refine F7 d5 b3 [root] W b4 l _ e6 hd rfl ⟨by simp,by simp;omega⟩ f0 (nbQ f1) (by show p.lineno<_;omega) λw V l2 k1 k2 k3 k4 h=>?_
 have n0:=k1.len
 have h:DocC σ b (l2.at b1::L) (([root]++V)++(y++junk)) lf {b4 with depth:=(([root].length+W.length:Nat):Int) - 1} w:=by simpa using h
 refine walkB d5 b5 ([root]++V) y _ l2 w d2 e8 h (by simp;omega) ⟨by simp,by simp;omega⟩ k3 λw l3 k5 h=>?_
 have g4:Sims (gs++ [top]) (root::(V++y)):=by
  rw[<-c4]
  exact .cons (Bk.sim.rfl' (b9 root (by simp)).2.2.2) (Sims.append k1 (Sims.refl λf e3=>(b9 f (by simp[e3])).2.2.2))
 obtain⟨H,I,d3,d0,c9⟩:=xJ g4
 have g6: ∀wd,(b3++b5).getLast? =some (.i wd)->I=top:=by
  intro wd b6
  have g7:b5≠ []:=by
   rintro rfl
   rw[lG0] at b6
   rcases f1 with rfl|h
   ·simp at b6
   ·rw[h] at b6;cases b6
  have g2:y≠ []:=by
   rintro rfl
   have m3:=f5.1
   rw[lK1] at m3
   have:=lY0.2 g7
   omega
  cases hz:y.getLast? with
  |none=>exact absurd (List.getLast?_eq_none_iff.1 hz) g2
  |some z=>
   have a1:(root::(W++y)).getLast? =some z:=by rw[<-lR0,lD4,hz];rfl
   have a2:(root::(V++y)).getLast? =some z:=by rw[<-lR0,lD4,hz];rfl
   rw[c4] at a1
   rw[d3] at a2
   rw[lD4] at a1 a2
   simp at a1 a2
   rw[a1,a2]
 have n1:=d0.len
 have e7:gs.length=(W++y).length:=by have:=congrArg List.length c4;simp at this⊢;omega
 have j1:([root]++V)++(y++junk)=H++I::junk:=by
  have:([root]++V)++(y++junk)=(root::(V++y))++junk:=by simp
  rw[this,d3];simp
 rw[j1] at h
 have e9:=(Sims.append (d0:Sims gs H) (.cons c9 (Sims.refl (fs:=junk) λf e3=>by
  have:f∈ [root]++(W++(y++junk)):=by simp[e3]
  exact(b9 f this).2.2.2))).mem
 have h3:FrS (b3++b5) (V++y):=k2.toS.append d2
 have h7: ∀E∈H++I::junk,E.D.length<=90000:=by
  have i0: ∀ {e0 e4:List Bk},Sims e0 e4->(∀E∈e0,E.D.length<=90000)-> ∀E∈e4,E.D.length<=90000:=by
   intro e0 e4 h6
   induction h6 with
   |nil=>intro _ E O;cases O
   |cons k _ j0=>
    intro f3 E O
    rcases lW0.1 O with rfl|O
    ·rw[k.2.2.1];exact f3 _ (.head _)
    ·exact j0 (λx e5=>f3 x (.tail _ e5)) E O
  intro E O
  rcases lO0.1 O with O|O
  ·exact i0 d0 (λx e5=>d4 x (by simp[e5])) E O
  ·rcases lW0.1 O with rfl|O
   ·rw[c9.2.2.1];exact d4 top (by simp)
   ·exact d4 E (by simp[O])
 have h4:(txF (H++I::junk)).length<=90000:=by rw[e9.2];exact m6
 refine Ds g0 d5 h5 m1 H I {b4 with depth:=((([root]++V).length+y.length:Nat):Int) - 1} l3 w h8 (by simp at e7;omega) h7 h4 h (by simp at e7⊢;omega) k5 λw p' d1 c8 U c3 b8 a1 a2 a3 a4 a5 m8 i8 a8 a9 a10 h=>?_
 obtain⟨b7,c5,m4,r2,i3⟩:=Dl h3 f6 d3 a3
 refine m2 w p' _ _ a1 a2 (k0 H d1 U c8 c3 b8 b7 c5 d0 (a3.lk.trans c9.lk) i3 r2 m4 (by rw[a4,c9.2.2.1]) a5 m8 i8 a8 ?_ a10 λwd i2=>by rw[a3.2.2.1,g6 wd i2]) h
 have t1:txF (H++d1::U)=txF H++txF (d1::U):=bD _ _
 have l5:txF (H++I::junk)=txF H++txF (I::junk):=bD _ _
 rw[<-e9.2,t1,l5]
 simp only[lA0];omega

theorem FrX.relast {m:Nat}{cs:List CX}{fs:List Bk}(h:FrX m cs fs): ∀(a:List Bk) (t t':Bk),fs=a++ [t]->t'.like t->FrX m cs (a++ [t']):=by
 induction h with
 |nil=>intro a t t' e;simp at e
 | @q cs fs f hq he h2 ih=>
  intro a t t' e E
  cases a with
  |nil=>
   simp only[lT0,lU0] at e
   obtain⟨rfl,rfl⟩:=e
   cases h2
   exact .q (E.quote hq) (E.2.2.1.trans he) .nil
  |cons x a=>
   simp only[lR0,lU0] at e
   obtain⟨rfl,e⟩:=e
   exact .q hq he (ih a t t' e E)
 | @i cs fs f g lb w bul num it hf hg hw he h2 ih=>
  intro a t t' e E
  cases a with
  |nil=>simp at e
  |cons x a=>
   simp only[lR0,lU0] at e
   obtain⟨rfl,e⟩:=e
   cases a with
   |nil=>
    simp only[lT0,lU0] at e
    obtain⟨rfl,rfl⟩:=e
    cases h2
    exact .i hf (E.itemOf hg) hw (E.2.2.1.trans he) .nil
   |cons H a=>
    simp only[lR0,lU0] at e
    obtain⟨rfl,e⟩:=e
    exact .i hf hg hw he (ih a t t' e E)
theorem jA {m:Nat}{cx:List CX}{root top g:Bk}{cf gs:List Bk}(I:FrX m cx cf)(hr:root.isRoot)(y:root::cf=gs++ [top])(O:g.like top): ∃E H,E::H=gs++ [g]/\E.isRoot/\FrX m cx H:=by
 cases gs with
 |nil=>
  simp only[lT0,lU0] at y
  obtain⟨rfl,rfl⟩:=y
  exact⟨g,[],rfl,O.root hr,by cases I;exact .nil⟩
 |cons x gs=>
  simp only[lR0,lU0] at y
  obtain⟨rfl,e⟩:=y
  exact⟨root,gs++ [g],rfl,hr,I.relast gs top g e O⟩
theorem rL {cx:List CX}{root top:Bk}{cf gs:List Bk}(O:FrS cx cf)(hr:root.isRoot)(E:root::cf=gs++ [top]):top.box_:=by
 have H: ∀ {cs:List CX} {fs:List Bk},FrS cs fs-> ∀a t,fs=a++ [t]->t.box_:=by
  intro cs fs h
  induction h with
  |nil=>intro a t e;simp at e
  | @q cs fs f hq h2 ih=>
   intro a t e
   cases a with
   |nil=>simp only[lT0,lU0] at e;obtain⟨rfl,_⟩:=e;exact hq.box_
   |cons x a=>simp only[lR0,lU0] at e;exact ih a t e.2
  | @i cs fs f g lb w bul num it hf hg hw h2 ih=>
   intro a t e
   cases a with
   |nil=>simp at e
   |cons x a=>
    simp only[lR0,lU0] at e
    obtain⟨_,e⟩:=e
    cases a with
    |nil=>simp only[lT0,lU0] at e;obtain⟨rfl,_⟩:=e;exact hg.box_
    |cons V a=>simp only[lR0,lU0] at e;exact ih a t e.2
 cases gs with
 |nil=>
  simp only[lT0,lU0] at E
  obtain⟨rfl,_⟩:=E
  obtain⟨U,I,_⟩:=hr
  exact⟨_,_,I,by decide,by decide⟩
 |cons x gs=>
  simp only[lR0,lU0] at E
  exact H O gs top E.2
def BD (n:Nat)(fs:List Bk):Prop:=(∀f∈fs,f.D.length<=3*n)/\(txF fs).length<=3*n
def BDi (n:Nat)(gs:List Bk)(top:Bk)(junk:List Bk):Prop:=(∀f∈gs,f.D.length<=3*n+1)/\(∀f∈top::junk,f.D.length<=3*n)/\((txF (gs++top::junk)).length<=3*n\/junk= []/\(txF (gs++top::junk)).length<=3*n+1)
theorem BDi.all {n:Nat}{gs junk:List Bk}{top:Bk}(h:BDi n gs top junk):(∀f∈gs++top::junk,f.D.length<=3*n+1)/\(txF (gs++top::junk)).length<=3*n+1:=by
 refine⟨λf g=>?_,by rcases h.2.2 with h|h<;>omega⟩
 rcases lO0.1 g with g|g
 ·exact h.1 f g
 ·have:=h.2.1 f g;omega
theorem BDi.le {n:Nat}{gs junk:List Bk}{top:Bk}(h:BDi n gs top junk)(y:n<=20000):(∀f∈gs++top::junk,f.D.length<=90000)/\(txF (gs++top::junk)).length<=90000:=⟨λf g=>by have:=h.all.1 f g;omega,by have:=h.all.2;omega⟩
theorem BD.i {n:Nat}{gs junk:List Bk}{top:Bk}(h:BD n (gs++top::junk)):BDi n gs top junk:=⟨λf g=>by have:=h.1 f (by simp[g]);omega,λf g=>h.1 f (lB0 _ g),.inl h.2⟩
def St (G:List UInt8->List Inl)(op:Opt)(cx:List CX)(d n:Nat)(gs0:List Bk)(top0:Bk)(xs:List IN)(fs:List Bk)(lf:Leaf):Prop:=
 ∃root cf gs top junk y g pend,fs=gs++top::junk/\root.isRoot/\root::cf=gs++ [top]/\FrX n cx cf/\Sims gs0 gs/\top.lk top0/\top.D=top0.D++y/\TDs G op y g/\Pd G op pend junk lf/\g++pend=xs/\junk.length<=2*d/\BD n fs
def CR (c:UInt8)(junk:List Bk):Prop:=junk= []\/ ∃g y E c0 num0 H,junk=g::y/\g.isList E (UInt8.toNat c0) num0 H/\c0≠c
def BlkP (G:List UInt8->List Inl)(op:Opt)(ec:ai)(ls:List (List UInt8))(x:Nat->IN)(d:Nat)(bc:Option UInt8):Prop:=
 ∀(cx:List CX) (root top:Bk) (cf gs junk:List Bk) (pend0:List IN) (rem:List (List UInt8)) (n:Nat) (Q:List DB->Prop),cx.length+d<=400->n+ls.length<=20000->(∀s∈ls,(ctx cx s).length<100000)->root.isRoot->root::cf=gs++ [top]->FrX (n+1) cx cf->Pd G op pend0 junk .none->junk.length<=900->(∀c,bc=some c->CR c junk)->BDi n gs top junk->
  (∀fs lf,St G op cx d (n+ls.length) gs top (pend0++ [x (n+1)]) fs lf->OkL ec op Q rem (n+ls.length) fs lf)->
  ∀(σ:Out) (R:Ending->World->Prop) (L:List ai) (b b1 pb:Nat) (p:PS) (w:World) (l:Ln) (E:OA->Nat->WP),Runs R E b b1->ec∈L->op.at pb∈L->p.pz=kE pb->p.lineno=n+1->p.depth=gs.length->LnR l (ls.headD [])->l.text.length<100000->DocC σ b (l.at b1::L) (gs++top::junk) .none p w->
   (∀w (p':PS) g y,p'.base=p.base->p'.lineno=p.lineno->OkL ec op Q (ls.tail.map (ctx cx)++rem) (n+1) g y->DocC σ b L g y p' w->R (hQ (.tuple #[])) w)->aj.bl102 R E (kE b) b1 w
theorem BD.le {n:Nat}{fs:List Bk}(h:BD n fs)(y:n<=20000):(∀f∈fs,f.D.length<=90000)/\(txF fs).length<=90000:=⟨λf g=>by have:=h.1 f g;omega,by have:=h.2;omega⟩
theorem St.done {cx:List CX}{d n b:Nat}{root top y:Bk}{cf gs junk:List Bk}{pend0:List IN}{x:IN}{E:List DB}{H:DB}{p:PS}(c1:FrX (n+1) cx cf)(hr:root.isRoot)(b4:root::cf=gs++ [top])(W:y.like top)(I:y.D=top.D++(E++ [H]))(U:TDs G op E pend0)(c2:pend0.length<=1)(b9:TD G op H x)(c5:(cl E).length<=(txF junk).length+1)(c4:H.txs.length<=1)(O:BDi n gs top junk)(h:DocC σ b L (gs++ [y]) .none p w):St G op cx d (n+1) gs top (pend0++ [x]) (gs++ [y]) .none:=by
 obtain⟨_,_,_,_,_,_,a7,_⟩:=h
 obtain⟨a6,b3,b6,r2,b7⟩:=jA c1 hr b4 W
 have c3:=U.len
 refine⟨a6,b3,gs,y,[],E++ [H],pend0++ [x],[],rfl,r2,b6,b7,Sims.refl λf g=>(a7 f (by simp[g])).2.2.2,W.lk,I,U.append (.cons b9 .nil),.none,by simp,by simp,λf g=>?_,?_⟩
 ·rcases lO0.1 g with g|g
  ·have:=O.all.1 f (by simp[g]);omega
  ·obtain rfl:=lQ0.1 g
   have:=O.all.1 top (by simp)
   rw[I];simp;omega
 ·have V:=O.all.2
  have b5:txF (gs++top::junk)=txF gs++(cl top.D++txF junk):=by simp[txF]
  have b8:txF (gs++ [y])=txF gs++(cl top.D++(cl E++H.txs)):=by rw[bD,dH,I,df,df];simp[cl]
  rw[b5] at V
  rw[b8]
  simp only[lA0] at V⊢
  omega
theorem LnR.noSkip {l:Ln}{s:List UInt8}(h:LnR l s)(hs:s.head?.map cM≠some true):l.skip=l:=by
 have H:=h.ok.i
 have g:=congrArg List.length h.tx
 rw[lN1] at g
 have y:s.dropWhile cM=s:=by
  cases s with
  |nil=>rfl
  |cons c s=>
   rw[lH2]
   intro E
   exact hs (by simp[E])
 unfold Ln.skip
 rw[h.tx,y,<-g,<-h.sp]
 have:l.text.length - (l.text.length - l.i)=l.i:=by omega
 rw[this]
theorem LnR.hr3 {l:Ln}(h:LnR l [42,42,42]):l.isHR=true:=by
 have O: ∀e,l.lead 3 e=l:=h.has.lead (by decide) 2
 have I:=congrArg List.length h.tx
 rw[lN1] at I
 simp only[lF0,lK1] at I
 obtain⟨m,b5⟩: ∃m,l.text.length+1=m+4:=⟨l.text.length - 3,by omega⟩
 unfold Ln.isHR
 simp only[O,h.has.peek]
 rw[if_pos (by decide),b5]
 have g:LnR {l with i:=l.i+1} [42,42]:=LnR.skip (a:= [42]) h
 have E:LnR {l with i:=l.i+1+1} [42]:=LnR.skip (a:= [42]) g
 have y:LnR {l with i:=l.i+1+1+1} []:=LnR.skip (a:= [42]) E
 have V:l.trimC 42=some {l with i:=l.i+1}:=by rw[h.has.trimC,if_pos rfl]
 have a7:({l with i:=l.i+1}:Ln).trimC 42=some {l with i:=l.i+1+1}:=by rw[g.has.trimC,if_pos rfl]
 have a6:({l with i:=l.i+1+1}:Ln).trimC 42=some {l with i:=l.i+1+1+1}:=by rw[E.has.trimC,if_pos rfl]
 have b6:({l with i:=l.i+1+1+1}:Ln).trimC 42=none:=by
  have H:=y.lenNil
  have b4:l.text[l.i+1+1+1]? =none:=lT1 H
  unfold Ln.trimC
  rw[if_neg (by show ¬ 0<l.sp;rw[h.sp];omega),if_neg (by show ¬ l.text[l.i+1+1+1]? =some 42;rw[b4];simp)]
 have W:=g.noSkip (by decide)
 have U:=E.noSkip (by decide)
 have b3:=y.noSkip (by decide)
 simp only[Ln.hrGo,V,W,a7,U,a6,b3,b6]
 have H:=y.lenNil
 simp only[lM1,decide_eq_true_eq]
 exact⟨by omega,H⟩
theorem GJ (V:op.task=false){ec:ai}{d:Nat}:BlkP G op ec [[42,42,42]] (λn=> .mk {kind:=9,mark:= [42,42,42],s:=n,e:=n} []) d none:=by
 intro cx root top cf gs junk pend0 rem n Q d3 e2 c5 hr y I U d4 c9 H b5 σ R L b b1 pb p w l e0 d0 d5 a7 b4 b7 hd g d2 h c1
 have g:LnR l [42,42,42]:=g
 have c8:=I.len
 have d1:gs.length=cf.length:=by have:=congrArg List.length y;simp at this;omega
 have E:=g.has
 have O: ∀e,l.lead 3 e=l:=E.lead (by decide) 2
 have c3:l.quote=none:=by unfold Ln.quote;rw[O,E.trimC,if_neg (by decide)];rfl
 have b8:l.heading=none:=by unfold Ln.heading;rw[O,E.trimC,if_neg (by decide)]
 have a6:l.str= [42,42,42]:=by unfold Ln.str;rw[g.sp,g.tx];rfl
 have b6:l.isHR=true:=g.hr3
 have W:=rL I.toS hr y
 refine Fi V U h hd (by omega) W.np g.ok c3 b8 b6 (H.le (by omega)).1 (H.le (by omega)).2 b4 a7 (by omega) λw p' c4 e1 nb b9 c2 k1 k2 k3 k4 h=>?_
 rw[a6,b7] at k2
 have b3:=St.done (G:=G) (op:=op) (d:=d) I hr y k1 k2 k3 U.len (td_hr (by decide) (by omega)) k4 (by simp[Ca]) H h
 exact c1 w p' _ _ b9 c2 (b5 _ _ b3) h

structure TxL (s:List UInt8):Prop where
 cont: ∀l,LnR l s->l.cont/\l.rest=s
 nb:s.all cM=false
theorem D6 (U:op.task=false)(V:op.ids=false){ec:ai}{d lv:Nat}{m:List UInt8}{g:UInt8}(b6:1<=lv/\lv<=6)(a6:cM g=false/\g≠35)(b4:m.length<100000)(c8:ju none [] op (m++ [g]) (G (m++ [g])))(b8:lR (G (m++ [g]))):
 BlkP G op ec [hN lv 35++32::(m++ [g])] (λn=> .mk {kind:=5,num:=(lv:Nat),s:=n,e:=n} (fW (G (m++ [g])))) d none:=by
 intro cx root top cf gs junk pend0 rem n Q e5 f1 d1 hr H O I e6 d3 E b5 σ R L b b1 pb p w l e8 d4 e7 W b3 b7 hd y e0 h c2
 have y:LnR l (hN lv 35++32::(m++ [g])):=y
 have d2:=O.len
 have d5:gs.length=cf.length:=by have:=congrArg List.length H;simp at this;omega
 obtain⟨b9,c5,c4,e9⟩:=y.heading b6
 refine Bm U V I h hd (by omega) y.ok c4 b9 c5 a6 b4 (E.le (by omega)).1 (E.le (by omega)).2 b3 W (by omega) λw p' c9 f0 nb t c1 c3 k1 k2 k3 k4 h=>?_
 rw[b7] at k2
 have a7:=St.done (G:=G) (op:=op) (d:=d) O hr H k1 k2 k3 I.len (E3 (by omega) (by omega) b8 c8) k4 (by simp[ym]) E h
 exact c2 w p' _ _ c1 c3 (b5 _ _ a7) h
theorem k2nb {b b1:Nat}{fs:List Bk}{lf:Leaf}{p:PS}{l:Ln}(h:DocC σ b (l.at b1::L) fs lf p w)(U:l.ok)(hb:l.blank=false)(I: ∀w,DocC σ b (l.at b1::L) fs lf p w->aj.bl102 R (aj.l102 R) (kE b) b1 w):
 aj.k2 R (kE b) b1 w:=by
 obtain⟨M,y,E,g,hs,ht,H,O,h⟩:=h
 unfold aj.k2
 have h:Sat σ w (l.at b1::p.at b::(M++(y++(aM fs++(g++L))))):=h.re
 refine dC h (.head _) U λw h=>⟨_,rfl,?_⟩
 rw[hb]
 exact ae rfl (I w ⟨M,y,E,g,hs,ht,H,O,h.re⟩)
theorem FrX.lastE {m:Nat}{cs:List CX}{fs:List Bk}(h:FrX m cs fs): ∀(a:List Bk) (t:Bk),fs=a++ [t]->t.ob.e=m:=by
 induction h with
 |nil=>intro a t e;simp at e
 | @q cs fs f hq he h2 ih=>
  intro a t e
  cases a with
  |nil=>simp only[lT0,lU0] at e;obtain⟨rfl,_⟩:=e;exact he
  |cons x a=>simp only[lR0,lU0] at e;exact ih a t e.2
 | @i cs fs f g lb w bul num it hf hg hw he h2 ih=>
  intro a t e
  cases a with
  |nil=>simp at e
  |cons x a=>
   simp only[lR0,lU0] at e
   obtain⟨_,e⟩:=e
   cases a with
   |nil=>simp only[lT0,lU0] at e;obtain⟨rfl,_⟩:=e;exact he
   |cons E a=>simp only[lR0,lU0] at e;exact ih a t e.2
theorem Bk.setE_same {t:Bk}{m:Nat}(h:t.ob.e=m):t.setE m=t:=by
 cases t with
 |mk ob own D IM=>
  cases ob
  subst h
  rfl
theorem Bk.isRoot.setE {f:Bk}{m:Nat}(h:f.isRoot):(f.setE m).isRoot:=h
theorem Ff {m:Nat}{cx:List CX}{root top:Bk}{cf gs:List Bk}(y:FrX m cx cf)(hr:root.isRoot)(g:root::cf=gs++ [top]): ∃E H,E::H=gs++ [top.setE m]/\E.isRoot/\FrX m cx H:=by
 cases gs with
 |nil=>
  simp only[lT0,lU0] at g
  obtain⟨rfl,rfl⟩:=g
  exact⟨root.setE m,[],rfl,hr.setE,y⟩
 |cons x gs=>
  have I:=g
  simp only[lR0,lU0] at g
  obtain⟨rfl,e⟩:=g
  rw[Bk.setE_same (y.lastE gs top e)]
  exact⟨root,cf,I,hr,y⟩
theorem Ev (c9:op.table=false){ec:ai}{Q:List DB->Prop}{rem:List (List UInt8)}{cx:List CX}{s0:Nat}(e3:cx.length<1000): ∀(rest E:List (List UInt8)) (n:Nat) (root top:Bk) (cf gs:List Bk),FrX n cx cf->root.isRoot->root::cf=gs++ [top]->(∀f∈gs++ [top],f.ob.e<1000000000)->(∀s∈rest,TxL s/\(ctx cx s).length<100000)->E.length+rest.length<100000->n+rest.length<1000000->
 (∀y g U H,Sims gs y->top.sim g->U.isRoot->U::H=y++ [g]->FrX (n+rest.length) cx H->(∀f∈y++ [g],f.ob.e<1000000000)->OkL ec op Q rem (n+rest.length) (y++ [g]) (oH s0 (E++rest)))->OkL ec op Q (rest.map (ctx cx)++rem) n (gs++ [top]) (oH s0 E):=by
 intro rest
 induction rest with
 |nil=>
  intro E n root top cf gs b8 hr b6 O a7 c1 c2 V
  have:=V gs top root cf (Sims.refl λf b7=>O f (by simp[b7])) (Bk.sim.rfl' (O top (by simp))) hr b6 b8 O
  simpa using this
 |cons s rest f5=>
  intro E n root top cf gs b8 hr b6 O a7 c1 c2 V
  simp only[lF0] at c1 c2
  obtain⟨hs,d5⟩:=a7 s (.head _)
  show∀nl,pK [ec] op (n+1) (ctx cx s) nl (gs++top:: []) (oH s0 E) (OkL ec op Q (rest.map (ctx cx)++rem) (n+1))
  intro nl
  have e5: ∀a c b3,cx=a++c::b3->(ctx (c::b3) s).all cM=false:=by
   have e0: ∀cs:List CX,(ctx cs s).all cM=false:=by
    intro cs
    induction cs with
    |nil=>exact hs.nb
    |cons c cs b5=>
     cases c with
     |q=>rfl
     |i w=>
      have e7:ctx cs s≠ []:=by intro f3;rw[f3] at b5;cases b5
      show (if ctx cs s= [] then [] else hN w 32++ctx cs s).all cM=false
      rw[if_neg e7,vn];exact b5
   intro a c b3 _
   exact e0 _
  refine z6 b8.toS hr b6 e5 e3 d5 λσ R L b b1 pb p w X y g U H l2 e9 g6 d3 e4 e8 g7 f4 f1 b4 b9 W I g5 hd g2 h f0=>?_
  obtain⟨c5,c3⟩:=hs.cont l2 I
  have d2:l2.blank=false:=by unfold Ln.blank;rw[I.tx];exact hs.nb
  have g3:=b4.len
  have g4:y.length=H.length:=by have:=congrArg List.length W;simp at this;omega
  refine E9 e9 h (by simp;omega) ⟨by simp,by simp;omega⟩ I.ok λw h=>?_
  refine k2nb h I.ok d2 λw h=>?_
  refine contS h hd (by omega) (rL b4.toS b9 W) c5 (by omega) e4 d3 c9 (by omega) λw h=>?_
  rw[c3,e8] at h
  obtain⟨c8,e6,f6,r2,g0⟩:=Ff b4 b9 W
  have e1: ∀f∈y++ [g.setE (n+1)],f.ob.e<1000000000:=by
   obtain⟨_,_,_,_,_,_,d1,_⟩:=h
   exact λf b7=>(d1 f b7).2.2.2
  refine f0 w p _ _ rfl rfl (f5 (E++ [s]) (n+1) c8 (g.setE (n+1)) e6 y g0 r2 f6 e1 (λx g1=>a7 x (.tail _ g1)) (by simp;omega) (by omega) λe2 d0 c4 d4 a1 a2 a3 a4 a5 f2=>?_) h
  have:=V e2 d0 c4 d4 (f4.trans a1) ((f1.trans (g.setE_sim (by omega))).trans a2) a3 a4 (by
   have e:n+(s::rest).length=n+1+rest.length:=by simp;omega
   rw[e];exact a5) f2
  have e:n+(s::rest).length=n+1+rest.length:=by simp;omega
  rw[e] at this
  rw[lD0]
  exact this

theorem Bi {k:Nat}{I O:List Bk}(h:Sims I O):(∀y∈I,y.D.length<=k)-> ∀y∈O,y.D.length<=k:=by
 induction h with
 |nil=>intro _ y E;cases E
 |cons W _ U=>
  intro H y E
  rcases lW0.1 E with rfl|E
  ·rw[W.2.2.1];exact H _ (.head _)
  ·exact U (λx V=>H x (.tail _ V)) y E
theorem St.fin {cx:List CX}{d n U:Nat}{H top g:Bk}{O gs y junk:List Bk}{I pend:List IN}{ds2:List DB}{lf:Leaf}(W:BDi n gs top junk)(b4:g.lk top)(V:g.D=top.D++ds2)(b5:TDs G op ds2 I)(c2:ds2.length<=2)(c3:(cl ds2).length<=(txF junk).length+2)(a6:Sims gs y)(hr3:H.isRoot)(b3:H::O=y++ [g])(c1:FrX U cx O)(b7:Pd G op pend [] lf)(c4:n+1<=U):
 St G op cx d U gs top (I++pend) (y++ [g]) lf:=by
 refine⟨H,O,y,g,[],ds2,I,pend,rfl,hr3,b3,c1,a6,b4,V,b5,b7,rfl,by simp,λf E=>?_,?_⟩
 ·rcases lO0.1 E with E|E
  ·have:=Bi (k:=3*n+1) a6 (λx b9=>W.all.1 x (by simp[b9])) f E;omega
  ·obtain rfl:=lQ0.1 E
   have:=W.all.1 top (by simp)
   rw[V];simp;omega
 ·have a7:=W.all.2
  have b6:txF (gs++top::junk)=txF gs++(cl top.D++txF junk):=by simp[txF]
  have b8:txF (y++ [g])=txF gs++(cl top.D++cl ds2):=by rw[bD,dH,V,df,a6.mem.2]
  rw[b6] at a7
  rw[b8]
  simp only[lA0] at a7⊢
  omega
theorem D4 (b5:op.task=false)(b6:op.table=false){ec:ai}{d:Nat}{ls:List (List UInt8)}(c8:ls≠ [])(U: ∀s∈ls,TxL s)(c4:xh G op ls):
 BlkP G op ec ls (λn=> .mk {kind:=6,s:=n,e:=n+ls.length - 1} (fW (G (bF [10] ls)))) d none:=by
 intro cx root top cf gs junk pend0 rem n Q e9 e0 b7 hr g H V f2 e4 y c3 σ R L b b1 pb p w l f6 e5 f3 b9 c2 c9 hd E e8 h d1
 obtain⟨s,rest,rfl⟩:=lA1 c8
 have E:LnR l s:=E
 obtain⟨b3,a7⟩:=(U s (.head _)).cont l E
 have e3:=H.len
 have e6:gs.length=cf.length:=by have:=congrArg List.length g;simp at this;omega
 simp only[lF0] at e0
 refine vT b5 V h hd (by omega) (rL H.toS hr g) b3 (y.le (by omega)).1 (y.le (by omega)).2 c2 b9 (by omega) λw p' I g0 d0 d2 k1 k2 k3 k4 h=>?_
 rw[a7,c9] at h
 obtain⟨b4,c5,d4,r2,d5⟩:=jA H hr g k1
 have c1: ∀f∈gs++ [I],f.ob.e<1000000000:=by
  obtain⟨_,_,_,_,_,_,b8,_⟩:=h
  exact λf d3=>(b8 f d3).2.2.2
 have f4:=k3.len
 have f0:=V.len
 refine d1 w p' _ _ d0 d2 (Ev b6 (by omega) rest [s] (n+1) b4 I c5 gs d5 r2 d4 c1 (λx W=>⟨U x (.tail _ W),b7 x (.tail _ W)⟩) (by simp;omega) (by omega) λf1 e2 e1 e7 a1 a2 a3 a4 a5 f5=>?_) h
 have O:=St.fin (G:=G) (op:=op) (d:=d) (pend:= [.mk {kind:=6,s:=n+1,e:=n+1+(s::rest).length - 1} (fW (G (bF [10] (s::rest))))]) y (a2.lk.trans k1.lk) (by rw[a2.2.2.1,k2]) k3 (by omega) (by omega) a1 a3 a4 a5 (.para c4) (by omega)
 have e:n+1+rest.length=n+(s::rest).length:=by simp;omega
 rw[e] at O⊢
 exact c3 _ _ O
theorem Bw {s:List UInt8}(hs:s.all cM=false): ∀cs:List CX,(ctx cs s).all cM=false:=by
 intro cs
 induction cs with
 |nil=>exact hs
 |cons c cs g=>
  cases c with
  |q=>rfl
  |i w=>
   have y:ctx cs s≠ []:=by intro E;rw[E] at g;cases g
   show (if ctx cs s= [] then [] else hN w 32++ctx cs s).all cM=false
   rw[if_neg y,vn];exact g
theorem As (c1:op.task=false)(e6:op.table=false){ec:ai}{d:Nat}{c:UInt8}{ls:List (List UInt8)}(hc:c=61\/c=45)(f6:ls≠ [])(d3: ∀s∈ls,TxL s)(g:xh G op ls):
 BlkP G op ec (ls++ [[c,c,c]]) (λn=> .mk {kind:=5,num:=(AD c:Nat),s:=n,e:=n+ls.length} (fW (G (bF [10] ls)))) d none:=by
 intro cx root top cf gs junk pend0 rem n Q i1 g4 c4 hr b6 b8 d1 j1 m1 I y σ R L b b1 pb p w l n2 i3 g0 a7 b5 b4 hd b7 f4 h O
 obtain⟨s,rest,rfl⟩:=lA1 f6
 have b7:LnR l s:=b7
 obtain⟨e3,d5⟩:=(d3 s (.head _)).cont l b7
 have l5:=b8.len
 have i8:gs.length=cf.length:=by have:=congrArg List.length b6;simp at this;omega
 have en:n+((s::rest)++ [[c,c,c]]).length=n+1+rest.length+1:=by simp;omega
 have g5:n+1+(s::rest).length=n+1+rest.length+1:=by simp;omega
 have y: ∀fs lf,St G op cx d (n+((s::rest)++ [[c,c,c]]).length) gs top (pend0++ [.mk {kind:=5,num:=(AD c:Nat),s:=n+1,e:=n+1+(s::rest).length} (fW (G (bF [10] (s::rest))))]) fs lf->OkL ec op Q rem (n+((s::rest)++ [[c,c,c]]).length) fs lf:=y
 rw[en,g5] at y
 rw[en] at g4
 refine vT c1 d1 h hd (by omega) (rL b8.toS hr b6) e3 (I.le (by omega)).1 (I.le (by omega)).2 b5 a7 (by omega) λw p' c2 g6 h1 g2 k1 k2 k3 k4 h=>?_
 rw[d5,b4] at h
 obtain⟨e1,f2,h2,r2,g3⟩:=jA b8 hr b6 k1
 have e9: ∀f∈gs++ [c2],f.ob.e<1000000000:=by
  obtain⟨_,_,_,_,_,_,f3,_⟩:=h
  exact λf h4=>(f3 f h4).2.2.2
 have m4:=k3.len
 have m3:=d1.len
 have e5:cM c=false:=by rcases hc with rfl|rfl<;>decide
 have b9:([c,c,c]:List UInt8).all cM=false:=by simp[e5]
 have e7:((s::rest)++ [[c,c,c]]).tail.map (ctx cx)++rem=rest.map (ctx cx)++(ctx cx [c,c,c]::rem):=by simp
 rw[e7] at O
 refine O w p' _ _ h1 g2 (Ev e6 (by omega) rest [s] (n+1) e1 c2 f2 gs g3 r2 h2 e9 (λx d4=>⟨d3 x (.tail _ d4),c4 x (by simp[d4])⟩) (by simp;omega) (by omega) λf1 e4 h6 i0 a1 a2 a3 a4 a5 n1=>?_) h
 show∀nl,pK [ec] op (n+1+rest.length+1) (ctx cx [c,c,c]) nl (f1++e4:: []) (oH (n+1) ([s]++rest)) (OkL ec op Q rem (n+1+rest.length+1))
 intro nl
 refine z6 a5.toS a3 a4 (λa x j0 _=>Bw b9 _) (by omega) (c4 _ (by simp)) λσ R L b b1 pb p w X b3 c3 h5 f0 l2 g7 g0 a7 b5 b4 m5 d2 U W c8 V H f4 hd i2 h O=>?_
 have e8:l2.blank=false:=by unfold Ln.blank;rw[H.tx];exact b9
 have h9:=W.len
 have k0:b3.length=f0.length:=by have:=congrArg List.length V;simp at this;omega
 have c5:(∀f∈b3++ [c3],f.D.length<=90000)/\(txF (b3++ [c3])).length<=90000:=by
  have E:=St.fin (G:=G) (op:=op) (d:=d) (pend:= [.mk {kind:=6,s:=n+1,e:=n+1+(s::rest).length - 1} (fW (G (bF [10] (s::rest))))]) I (U.lk.trans (a2.lk.trans k1.lk)) (by rw[U.2.2.1,a2.2.2.1,k2]) k3 (by omega) (by omega) (a1.trans d2) c8 V W (.para g) (by omega)
  obtain⟨_,_,n0,m8,m9,_,_,_,n3,_,_,_,_,_,_,_,_,_,_,hb⟩:=E
  exact hb.le (by omega)
 refine E9 g7 h (by simp;omega) ⟨by simp,by simp;omega⟩ H.ok λw h=>?_
 refine k2nb h H.ok e8 λw h=>?_
 refine Fc (n:=3) c1 h hd (by omega) hc (by decide) H g c5.1 c5.2 b5 a7 (by omega) λw p' h8 hb t f5 g1 c9 d0 m2 h=>?_
 obtain⟨h7,m6,t1,h0,h3⟩:=jA W c8 V c9
 rw[b4] at d0
 have E:=St.fin (G:=G) (op:=op) (d:=d) (pend:= []) (ds2:=g6++ [qQ hb t (n+1) (n+1+rest.length+1) (n+1) (n+1+([s]++rest).length - 1) (AD c) (bF [10] ([s]++rest))]) I (c9.lk.trans (U.lk.trans (a2.lk.trans k1.lk))) (by rw[d0,U.2.2.1,a2.2.2.1,k2,lD0]) (k3.append (.cons (A8 (by omega) (by omega) g.tame g.inl) .nil)) (by simp;omega) (by rw[df];simp[cl,qQ];simp[cl] at k4;omega) (a1.trans d2) h0 t1 h3 .none (by omega)
 rw[lG0] at E
 exact O w p' _ _ f5 g1 (y _ _ E) h

structure CoL (F s:List UInt8):Prop where
 go: ∀l,LnR l s->vt F l
 nb:s.all cM=false
theorem LnR.str {l:Ln}{s:List UInt8}(h:LnR l s):l.str=s:=by unfold Ln.str;rw[h.sp,h.tx];rfl
theorem fenGo {ec:ai}{Q:List DB->Prop}{rem:List (List UInt8)}{cx:List CX}{s0:Nat}{F info:List UInt8}(e3:Ay ec)(d0:cx.length<1000): ∀(rest E:List (List UInt8)) (n:Nat) (root top:Bk) (cf gs:List Bk),FrX n cx cf->root.isRoot->root::cf=gs++ [top]->(∀f∈gs++ [top],f.ob.e<1000000000)->(∀s∈rest,CoL F s/\(ctx cx s).length<100000)->E.length+rest.length<100000->n+rest.length<1000000->
 (∀g y I H,Sims gs g->top.sim y->I.isRoot->I::H=g++ [y]->FrX (n+rest.length) cx H->OkL ec op Q rem (n+rest.length) (g++ [y]) (C1 s0 (n+rest.length) F info (E++rest)))->OkL ec op Q (rest.map (ctx cx)++rem) n (gs++ [top]) (C1 s0 n F info E):=by
 intro rest
 induction rest with
 |nil=>
  intro E n root top cf gs b3 hr a6 W V b6 b7 U
  have:=U gs top root cf (Sims.refl λf a7=>W f (by simp[a7])) (Bk.sim.rfl' (W top (by simp))) hr a6 b3
  simpa using this
 |cons s rest e5=>
  intro E n root top cf gs b3 hr a6 W V b6 b7 U
  simp only[lF0] at b6 b7
  obtain⟨hs,c5⟩:=V s (.head _)
  show∀nl,pK [ec] op (n+1) (ctx cx s) nl (gs++top:: []) (C1 s0 n F info E) (OkL ec op Q (rest.map (ctx cx)++rem) (n+1))
  intro nl
  refine z6 b3.toS hr a6 (λa x f1 _=>Bw hs.nb _) d0 c5 λσ R L b b1 pb p w X g y I H l2 e0 d2 e9 f2 d5 f3 e4 e2 b5 d1 b4 O c4 hd e7 h e1=>?_
  have c2:l2.blank=false:=by unfold Ln.blank;rw[O.tx];exact hs.nb
  have e8:=b5.len
  have f0:g.length=H.length:=by have:=congrArg List.length b4;simp at this;omega
  have c8: ∀f∈g++ [y],f.ob.e<1000000000:=by
   obtain⟨_,_,_,_,_,_,c1,_⟩:=h
   exact λf a7=>(c1 f a7).2.2.2
  refine DL (gs:=g++ [y]) e0 h (by simp;omega) ⟨by simp,by simp;omega⟩ O.ok c2 c4 (by omega) e3 d2 (hs.go l2 O) λw p' d4 d3 h=>?_
  rw[O.str,d5] at h
  refine e1 w p' _ _ d4 d3 (e5 (E++ [s]) (n+1) I y H g b5 d1 b4 c8 (λx e6=>V x (.tail _ e6)) (by simp;omega) (by omega) λc9 b9 b8 c3 a1 a2 a3 a4 a5=>?_) h
  have e:n+(s::rest).length=n+1+rest.length:=by simp;omega
  have:=U c9 b9 b8 c3 (e4.trans a1) (e2.trans a2) a3 a4 (by rw[e];exact a5)
  rw[e] at this
  rw[lD0]
  exact this
theorem D7 (d2:op.task=false){ec:ai}{d:Nat}{info:List UInt8}{ls:List (List UInt8)}(a6:Ay ec)(g2: ∀c∈info,AE c=true)(e2:info.length<10000)(f5: ∀s∈ls,CoL [96,96,96] s)(g0:ls.head? ≠some [])(d4:(dK ls).length<1073741824):
 BlkP G op ec ((96::96::96::info)::(ls++ [[96,96,96]])) (λn=> .mk {kind:=7,text:=dK ls,title:=info,mark:= [96,96,96],s:=n,e:=n+ls.length+1} []) d none:=by
 intro cx root top cf gs junk pend0 rem n Q l5 g6 b8 hr U b3 c9 m6 n0 y g σ R L b b1 pb p w l o2 m3 V c1 c4 I hd W H h E
 have W:LnR l (hN 3 96++info):=W
 have m9:=b3.len
 have m4:gs.length=cf.length:=by have:=congrArg List.length U;simp at this;omega
 have en:n+((96::96::96::info)::(ls++ [[96,96,96]])).length=n+1+ls.length+1:=by simp;omega
 have g: ∀fs lf,St G op cx d (n+((96::96::96::info)::(ls++ [[96,96,96]])).length) gs top (pend0++ [.mk {kind:=7,text:=dK ls,title:=info,mark:= [96,96,96],s:=n+1,e:=n+1+ls.length+1} []]) fs lf->OkL ec op Q rem (n+((96::96::96::info)::(ls++ [[96,96,96]])).length) fs lf:=g
 rw[en] at g g6
 have j1:=c9.len
 refine zS d2 c9 h hd (by omega) (rL b3.toS hr U) W H (by decide) (by decide) g2 e2 a6 V (y.le (by omega)).1 (y.le (by omega)).2 c4 c1 (by omega) λw p' b5 h1 h5 g1 k1 k2 k3 k4 h=>?_
 rw[I] at h
 obtain⟨d1,e7,h8,r2,g4⟩:=jA b3 hr U k1
 have e3: ∀f∈gs++ [b5],f.ob.e<1000000000:=by
  obtain⟨_,_,_,_,_,_,e8,_⟩:=h
  exact λf i0=>(e8 f i0).2.2.2
 have n1:=k3.len
 have e0:((96::96::96::info)::(ls++ [[96,96,96]])).tail.map (ctx cx)++rem=ls.map (ctx cx)++(ctx cx [96,96,96]::rem):=by simp
 rw[e0] at E
 refine E w p' _ _ h5 g1 (fenGo a6 (by omega) ls [] (n+1) d1 b5 e7 gs g4 r2 h8 e3 (λx d0=>⟨f5 x d0,b8 x (by simp[d0])⟩) (by simp;omega) (by omega) λe5 d3 i2 k0 a1 a2 a3 a4 a5=>?_) h
 show∀nl,pK [ec] op (n+1+ls.length+1) (ctx cx [96,96,96]) nl (e5++d3:: []) (C1 (n+1) (n+1+ls.length) [96,96,96] info ([]++ls)) (OkL ec op Q rem (n+1+ls.length+1))
 intro nl
 have b4:([96,96,96]:List UInt8).all cM=false:=by decide
 refine z6 a5.toS a3 a4 (λa x m5 _=>Bw b4 _) (by omega) (b8 _ (by simp)) λσ R L b b1 pb p w X c2 b7 i1 e4 l2 h3 V c1 c4 I n2 h7 a7 b9 f2 b6 O H hd m2 h E=>?_
 have e1:l2.blank=false:=by unfold Ln.blank;rw[O.tx];exact b4
 have j0:=b9.len
 have m8:c2.length=e4.length:=by have:=congrArg List.length b6;simp at this;omega
 have f1:LnR l2 (hN 3 96++ []):=O
 obtain⟨g7,g5,o0,f3⟩:=sK (word:= []) (by decide) (λc hc=>by cases hc) f1
 have f0: ¬ vt [96,96,96] l2:=λg3=>g3 3 96 [] [] f3 rfl
 have d5:CT [96,96,96] l2:=⟨g7,λn c t info h2=>by
  obtain⟨rfl,rfl,rfl⟩:=g5 n c t info h2
  exact⟨rfl,rfl⟩⟩
 have e6:b7.D.length<=90000:=by
  have:=y.all.1 top (by simp)
  rw[a7.2.2.1,a2.2.2.1,k2];simp;omega
 refine FL (gs:=c2) (top:=b7) h3 h hd (by omega) O.ok e1 H (by simp;omega) a6 V f0 d5 e6 λw p' i8 nb q c h6 e9 f6 c5 c8 f4 m1 h=>?_
 obtain⟨i3,n3,t1,h4,h9⟩:=jA b9 f2 b6 c5
 rw[I] at c8
 have c3:=St.fin (G:=G) (op:=op) (d:=d) (pend:= []) (ds2:=h1++ [mp nb (n+1) (n+1+ls.length+1) [96,96,96] info q ls.length c h6]) y (c5.lk.trans (a7.lk.trans (a2.lk.trans k1.lk))) (by rw[c8,a7.2.2.1,a2.2.2.1,k2,lD0];rfl) (k3.append (.cons (E4 f4 (by omega) d4 g0 (by decide) (by omega) (by omega) (by omega)) .nil)) (by simp;omega) (by rw[df];simp[cl,mp];simp[cl] at k4;omega) (a1.trans h7) h4 t1 h9 .none (by omega)
 rw[lG0] at c3
 exact E w p' _ _ e9 f6 (g _ _ c3) h
end Go.Proofs.YtendaipfdnhnaaaGreatDoor
