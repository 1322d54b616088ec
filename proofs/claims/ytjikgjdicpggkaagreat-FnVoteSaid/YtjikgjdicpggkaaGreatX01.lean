import Derived.ChangeKeysEq
import Derived.Deep.LoopGhost
import Derived.Deep.OwnRows
import Derived.KernelRfl
import Derived.Laws.StructEq
import Derived.Lib.ConvBytes
import Derived.LoopN
import Derived.Test.YtjikgjdicpggkaaGreatX00
set_option autoImplicit true
set_option relaxedAutoImplicit true
set_option linter.all false
set_option maxRecDepth 100000
set_option maxHeartbeats 4000000
namespace Go.Sx
open Go
inductive FK where
 |oi (T:TypeId) (k:IntKind)|ob (T:TypeId)|bys (T:TypeId)|ul (T:TypeId) (k:IntKind)|st|sl (T:TypeId) (sz:Nat)|sc|fn
 deriving Inhabited
def iR:C→C
 |.raw _ b T cs=>.raw false b T cs|c=>c
structure Fd where
 f:FV
 ps:List (W Pay):=[]
 obl:Prop:=True
structure Fds where
 fs:List FV
 ps:List (W Pay):=[]
 obl:Prop:=True
def oG (g:FK→SV→SM Pay Fd):List FK→List SV→SM Pay Fds
 |[],[]=>.ret {fs:=[]}|k::ks,x::xs=>(g k x).bind fun r=>(oG g ks xs).bind fun rs=>.ret {fs:=r.f::rs.fs,ps:=r.ps++rs.ps,obl:=r.obl∧rs.obl}|_,_=>.fail
variable (KF:TypeId→Option (List FK))
def hG:Nat→FK→SV→SM Pay Fd
 |fuel,.oi T kd,x=>match x with
  |.v v=>match v with
   |.pointer none=>.ret {f:=.oi T kd none}|_=>.fail
  |.ptr h b off=>match off with
   |0=>.rdC h fun c=>match c with
    |.raw own b' T' cs=>match cs with
     |[c]=>match bG c with
      |some (_,k',n)=>.ret {f:=.oi T' k' (some n),ps:=[.cel h (.raw false b' T' [c])],obl:=b=b'}|none=>.fail
     |_=>.fail
    |_=>.fail
   |_=>.fail
  |.hv h v=>.rdC h fun c=>match c with
   |.prd (.im v' f)=>.ret {f:=f,obl:=v=v'}|_=>.fail
  |_=>.fail
 |fuel,.ob T,x=>match x with
  |.v v=>match v with
   |.pointer none=>.ret {f:=.ob T none}|_=>.fail
  |.ptr h b off=>match off with
   |0=>.rdC h fun c=>match c with
    |.raw own b' T' cs=>match cs with
     |[.bl v]=>.ret {f:=.ob T' (some v),ps:=[.cel h (.raw false b' T' [.bl v])],obl:=b=b'}|_=>.fail
    |_=>.fail
   |_=>.fail
  |.hv h v=>.rdC h fun c=>match c with
   |.prd (.im v' f)=>.ret {f:=f,obl:=v=v'}|_=>.fail
  |_=>.fail
 |fuel,.bys T,x=>match x with
  |.v v=>match v with
   |.slice none 0 0=>.ret {f:=.bys T 0 none}|_=>.fail
  |.sl h nn b off n cap=>.rdC h fun c=>match c with
   |.prd (.sl sp nn' b' off' cap' (.bys T' n' o))=>.ret {f:=.bys T' n' o,obl:=nn=nn'∧b=b'∧off=off'∧cap=cap'∧n=n'}|_=>.fail
  |_=>.fail
 |fuel,.ul T k,x=>match x with
  |.v v=>match v with
   |.slice none 0 0=>.ret {f:=.ul T k 0 []}|_=>.fail
  |.sl h nn b off n cap=>.rdC h fun c=>match c with
   |.prd (.sl sp nn' b' off' cap' (.ul T' k' n' l))=>.ret {f:=.ul T' k' n' l,obl:=nn=nn'∧b=b'∧off=off'∧cap=cap'∧n=n'}|_=>.fail
  |_=>.fail
 |fuel,.sl T sz,x=>match x with
  |.v v=>match v with
   |.slice none 0 0=>.ret {f:=.sl T sz 0 []}|_=>.fail
  |.sl h nn b off n cap=>.rdC h fun c=>match c with
   |.prd (.sl sp nn' b' off' cap' (.sl T' sz' n' l))=>.ret {f:=.sl T' sz' n' l,obl:=nn=nn'∧b=b'∧off=off'∧cap=cap'∧n=n'}|_=>.fail
  |_=>.fail
 |fuel,.sc,x=>match x with
  |.lit k n=>.ret {f:=.sc (.int k n)}|.i k n=>.ret {f:=.sc (.int k n)}|.bl b=>.ret {f:=.sc (.bool b)}|.v v=>.ret {f:=.sc v,obl:=v.oneCell'=true}|.sl _ nn b off n cap=>.ret {f:=.sc (.slice (slA nn b off) n cap)}|.hv _ v=>.ret {f:=.sc v,obl:=v.oneCell'=true}|_=>.fail
 |0,.fn,_=>.fail|fuel+1,.fn,x=>match x with
  |.fn (.func f) [] [y]=>(hG fuel .st y).bind fun r=>.ret {f:=.fc f r.f,ps:=r.ps,obl:=r.obl}|_=>.fail
 |0,.st,_=>.fail|fuel+1,.st,x=>match x with
  |.v v=>match v with
   |.pointer none=>.ret {f:=.np}|_=>.fail
  |.ptr h b off=>match off with
   |0=>.rdC h fun c=>match c with
    |.prd (.st b' T' fs)=>.ret {f:=.st T' fs,obl:=b=b'}|.raw own b' T' cs=>match KF T' with
     |some ks=>(oG (hG fuel) ks cs).bind fun r=>.ret {f:=.st T' r.fs,ps:=.cel h (.raw false b' T' cs)::r.ps,obl:=b=b'∧r.obl}|none=>.fail
    |_=>.fail
   |_=>.fail
  |.hv h v=>.rdC h fun c=>match c with
   |.prd (.im v' f)=>.ret {f:=f,obl:=v=v'}|_=>.fail
  |_=>.fail
def nJ (σ L:List C) (ps:List (W Pay)):Prop:=∀x∈ps,∃p c,x=.cel p c∧L.getD p .nil=iR (σ.getD p .nil)
def oR (σ L:List C):Prop:=∀p,L.getD p .nil=σ.getD p .nil∨L.getD p .nil=iR (σ.getD p .nil)
def jH (σ:List C) (x:SV) (r:Fd):Prop:=
 ∀(L:List C) (w:World) (F:HProp),nJ σ L r.ps→oR σ L→sat w (star (big L) F)→sat w (star (r.f.den x.den) (star (big L) F))
def nR (σ:List C) (ps:List (W Pay)):Prop:=∀x∈ps,∃p,x=.cel p (iR (σ.getD p .nil))∧p<σ.length
theorem mA {L:List C} {w:World} {F:HProp} {p:Nat} (h:sat w (star (big L) F)) {c:C} (hc:L.getD p .nil=c) (hp:aU c.den):sat w (star c.den (star (big L) F)):=by have h1:=jI (p:=p) h;rw[hc] at h1;have h2:=lA hp h1;rw[bV L p,hc];simpa only[aA] using h2
theorem uU (b:Nat) (T:TypeId) (cs:List SV):aU (Cel.raw false b T cs:C).den:=(aU.ipts _ _).star (aU.cells _ _ _)
theorem vN {σ L:List C} {h:Nat} {own:Bool} {b:Nat} {T:TypeId} {cs:List SV} {ps:List (W Pay)} (hc:σ.getD h .nil=.raw own b T cs) (hS:nJ σ L (.cel h (.raw false b T cs)::ps)):
  L.getD h .nil=.raw false b T cs:=by
 obtain⟨p,c,e,h1⟩:=hS _ (List.mem_cons_self ..);cases e;rw[h1,hc];rfl
theorem j8 {σ L:List C} {h:Nat} {p:Pay} (hc:σ.getD h .nil=.prd p) (hN:oR σ L):L.getD h .nil=.prd p:=by rcases hN h with e|e<;>rw[e,hc]<;>rfl
theorem bY {w:World} {sp:Bool} {nn b off cap:Nat} {f:FV} {L:List C} {F:HProp} {h:Nat} (hc:L.getD h .nil=.prd (.sl sp nn b off cap f)) (hs:sat w (star (big L) F)):
  sat w (star (f.row nn b off cap) (star (big L) F)):=by
 have h1:=jI (p:=h) hs;rw[hc] at h1;simp only[Cel.den,PayDen.den,aA] at h1;have h2:=lA (aU.row nn b off cap f) h1;rw[bV L h,hc];simpa only[Cel.den,PayDen.den,aA] using h2
theorem JJ {w:World} {nn b off cap n:Nat} {f:FV} {A:HProp} (hn:n=f.len) (h:sat w (star (f.row nn b off cap) A)):sat w (star (f.den (.slice (slA nn b off) n cap)) A):=by
 subst hn;cases f with
 |bys T n o=>
  cases o with
  |none=>simp only[FV.row] at h;obtain⟨⟨⟨rfl,rfl⟩,rfl⟩,h2⟩:=aB.1 h;simp only[FV.den,aB];exact⟨⟨rfl,trivial⟩,h2⟩
  |some l=>
   simp only[FV.row,aA,aB] at h;simp only[FV.den];rw[aA,aB,aL];refine⟨h.1.2,(b,off,cap),?_⟩;rw[aA,aB];refine⟨?_,h.2⟩;simp only[FV.len,h.1.2];cases nn with
   |zero=>exact absurd rfl h.1.1|succ nn=>rfl
 |ul T k n l=>simp only[FV.row,aA,aB] at h;simp only[FV.den,slD];rw[aA,aB,aL];refine⟨h.1,(nn,b,off,cap),?_⟩;rw[aA,aB];exact⟨by simp[FV.len],h.2⟩|sl T sz n l=>simp only[FV.row] at h;rw[aL] at h;obtain⟨ps,h⟩:=h;rw[aA,aB,aA] at h;simp only[FV.den,slD];rw[aL];refine⟨ps,?_⟩;rw[aA,aB];refine⟨h.1,?_⟩;rw[aA,aL];refine⟨(nn,b,off,cap),?_⟩;rw[aA,aB];exact⟨by simp[FV.len],h.2⟩
 |_=>simp only[FV.row] at h;exact(cF h).elim
theorem qU {σ:St Pay} {g:FK→SV→SM Pay Fd} (hg:∀k x r,(g k x).val σ=some r→r.obl→jH σ.heap x r∧nR σ.heap r.ps):
  ∀(ks:List FK) (xs:List SV) (r:Fds),(oG g ks xs).val σ=some r→r.obl→
   nR σ.heap r.ps∧∀(L:List C) (w:World) (F:HProp),nJ σ.heap L r.ps→oR σ.heap L→sat w (star (big L) F)→sat w (star (FV.dens r.fs (SV.dens xs)) (star (big L) F))
 |[],[],r,h,_=>by simp only[oG,aC,Option.some.injEq] at h;subst h;exact⟨fun _ h=>(by cases h),fun L w F _ _ hs=>by simpa [FV.dens,SV.dens,aH] using hs⟩
 |k::ks,x::xs,r,h,ho=>by
  simp only[oG,aE,Option.bind_eq_some_iff] at h;obtain⟨r1,h1,r2,h2,h3⟩:=h;simp only[aC,Option.some.injEq] at h3;subst h3;obtain⟨a1,a2⟩:=hg _ _ _ h1 ho.1;obtain⟨b1,b2⟩:=qU hg ks xs r2 h2 ho.2;refine⟨fun y hy=>?_,fun L w F hS hN hs=>?_⟩
  ·rcases List.mem_append.1 hy with hy|hy
   ·exact a2 y hy
   ·exact b1 y hy
  ·have s2:=b2 L w F (fun y hy=>hS y (List.mem_append_right _ hy)) hN hs;have s3:sat w (star (big L) (star (FV.dens r2.fs (SV.dens xs)) F)):=aI s2 (by ac_rfl);have s4:=a1 L w _ (fun y hy=>hS y (List.mem_append_left _ hy)) hN s3;simp only[FV.dens,SV.dens];exact aI s4 (by ac_rfl)
 |[],x::xs,r,h,_=>by simp[oG] at h
 |k::ks,[],r,h,_=>by simp[oG] at h
theorem aZ {w:World} {p:Prop} {A:HProp} (hp:p) (h:sat w A):sat w (star (pure' p) A):=aB.2 ⟨hp,h⟩
theorem sZ {w:World} {b:Nat} {A:HProp} {B:Nat→HProp} (h:sat w (star (B b) A)):sat w (star (exi fun b':Nat=>star (pure' (Value.pointer (some ⟨b,0,none⟩)=.pointer (some ⟨b',0,none⟩))) (B b')) A):=by rw[aL];exact⟨b,by rw[aA];exact aZ rfl h⟩
theorem B7 {σ:List C} {h:Nat} {own:Bool} {b:Nat} {T:TypeId} {cs:List SV} (hc:σ.getD h .nil=.raw own b T cs):h<σ.length:=jG (by rw[hc];exact fun e=>by cases e)
theorem pA {σ:St Pay}:∀(fuel:Nat) (k:FK) (x:SV) (r:Fd),(hG KF fuel k x).val σ=some r→r.obl→jH σ.heap x r∧nR σ.heap r.ps:=by
 have nil:∀{f:FV} {x:SV} {p:Prop},(∀w A,sat w A→sat w (star (f.den x.den) A))→jH σ.heap x {f:=f,ps:=[],obl:=p}∧nR σ.heap ([]:List (W Pay)):=
  fun hf=>⟨fun L w F _ _ hs=>hf _ _ hs,fun _ h=>(by cases h)⟩
 have slc:∀{h nn b off n cap nn' b' off' cap':Nat} {sp:Bool} {f:FV} {p:Prop},σ.heap.getD h .nil=.prd (.sl sp nn' b' off' cap' f)→nn=nn'→b=b'→off=off'→cap=cap'→n=f.len→
   jH σ.heap (.sl h nn b off n cap) {f:=f,ps:=[],obl:=p}∧nR σ.heap ([]:List (W Pay)):=by
  intro h nn b off n cap nn' b' off' cap' sp f p hc e1 e2 e3 e4 e5;subst e1;subst e2;subst e3;subst e4;exact⟨fun L w F _ hN hs=>JJ e5 (bY (j8 hc hN) hs),fun _ h=>by cases h⟩
 have imm:∀{h:Nat} {v v':Value} {f:FV} {p:Prop},σ.heap.getD h .nil=.prd (.im v' f)→v=v'→jH σ.heap (.hv h v) {f:=f,ps:=[],obl:=p}∧nR σ.heap ([]:List (W Pay)):=by intro h v v' f p hc e;subst e;exact⟨fun L w F _ hN hs=>mA hs (j8 hc hN) (FV.pers f v),fun _ h=>(by cases h)⟩
 have ptr:∀{h b b':Nat} {T:TypeId} {own:Bool} {c:SV} {f:FV} {p:Prop},σ.heap.getD h .nil=.raw own b' T [c]→b=b'→(∀(w:World) (A:HProp),sat w (star (star (hdr b T 1) (dH b 0 [c.den])) A)→sat w (star (f.den (.pointer (some ⟨b,0,none⟩))) A))→
   jH σ.heap (.ptr h b 0) {f:=f,ps:=[.cel h (.raw false b' T [c])],obl:=p}∧nR σ.heap [.cel h (.raw false b' T [c])]:=by
  intro h b b' T own c f p hc e hf;subst e;refine⟨fun L w F hS _ hs=>?_,fun y hy=>?_⟩
  ·have hL:=vN hc hS;have:=mA hs hL (uU _ _ _);exact hf _ _ this
  ·simp only[List.mem_singleton] at hy;subst hy;exact⟨h,by rw[hc];rfl,B7 hc⟩
 have leaf:∀(fuel:Nat) (k:FK) (x:SV) (r:Fd),k≠.st→k≠.fn→(hG KF fuel k x).val σ=some r→r.obl→jH σ.heap x r∧nR σ.heap r.ps:=by
  intro fuel k x r hk hk2 h ho;have e0:hG KF fuel k x=hG KF 0 k x:=by
   cases k with
   |st=>exact absurd rfl hk|fn=>exact absurd rfl hk2|_=>cases fuel<;>rfl
  rw[e0] at h;cases k with
  |st=>exact absurd rfl hk|fn=>exact absurd rfl hk2|oi T kd=>
   simp only[hG] at h;split at h
   ·split at h
    ·simp only[aC,Option.some.injEq] at h;subst h;exact nil fun w A hs=>by simp only[FV.den,SV.den];exact aZ trivial hs
    ·simp at h
   ·split at h
    ·simp only[aQ] at h;split at h
     ·split at h
      ·split at h
       ·rename_i hi;simp only[aC,Option.some.injEq] at h;subst h;have hd:=d8 hi;refine ptr (by assumption) ho fun w A hs=>?_;simp only[FV.den];exact sZ (by rw[hd] at hs;exact hs)
       ·simp at h
      ·simp at h
     ·simp at h
    ·simp at h
   ·simp only[aQ] at h;split at h
    ·rename_i hc;simp only[aC,Option.some.injEq] at h;subst h;exact imm hc ho
    ·simp at h
   ·simp at h
  |ob T=>
   simp only[hG] at h;split at h
   ·split at h
    ·simp only[aC,Option.some.injEq] at h;subst h;exact nil fun w A hs=>by simp only[FV.den,SV.den];exact aZ trivial hs
    ·simp at h
   ·split at h
    ·simp only[aQ] at h;split at h
     ·split at h
      ·simp only[aC,Option.some.injEq] at h;subst h;refine ptr (by assumption) ho fun w A hs=>?_;simp only[FV.den];exact sZ hs
      ·simp at h
     ·simp at h
    ·simp at h
   ·simp only[aQ] at h;split at h
    ·rename_i hc;simp only[aC,Option.some.injEq] at h;subst h;exact imm hc ho
    ·simp at h
   ·simp at h
  |bys T=>
   simp only[hG] at h;split at h
   ·split at h
    ·simp only[aC,Option.some.injEq] at h;subst h;exact nil fun w A hs=>by simp only[FV.den,SV.den];exact aZ ⟨trivial,trivial⟩ hs
    ·simp at h
   ·simp only[aQ] at h;split at h
    ·rename_i hc;simp only[aC,Option.some.injEq] at h;subst h;exact slc hc ho.1 ho.2.1 ho.2.2.1 ho.2.2.2.1 ho.2.2.2.2
    ·simp at h
   ·simp at h
  |ul T k=>
   simp only[hG] at h;split at h
   ·split at h
    ·simp only[aC,Option.some.injEq] at h;subst h;exact nil fun w A hs=>by simp only[FV.den,SV.den,slD];rw[aA,aB,aL];refine⟨rfl,(0,0,0,0),?_⟩;rw[aA];exact aZ rfl (aZ ⟨rfl,rfl⟩ hs)
    ·simp at h
   ·simp only[aQ] at h;split at h
    ·rename_i hc;simp only[aC,Option.some.injEq] at h;subst h;exact slc hc ho.1 ho.2.1 ho.2.2.1 ho.2.2.2.1 ho.2.2.2.2
    ·simp at h
   ·simp at h
  |sc=>
   simp only[hG] at h;split at h
   ·simp only[aC,Option.some.injEq] at h;subst h;exact nil fun w A hs=>by simp only[FV.den,SV.den];exact aZ ⟨trivial,rfl⟩ hs
   ·simp only[aC,Option.some.injEq] at h;subst h;exact nil fun w A hs=>by simp only[FV.den,SV.den];exact aZ ⟨trivial,rfl⟩ hs
   ·simp only[aC,Option.some.injEq] at h;subst h;exact nil fun w A hs=>by simp only[FV.den,SV.den];exact aZ ⟨trivial,rfl⟩ hs
   ·simp only[aC,Option.some.injEq] at h;subst h;exact nil fun w A hs=>by simp only[FV.den,SV.den];exact aZ ⟨trivial,ho⟩ hs
   ·simp only[aC,Option.some.injEq] at h;subst h;exact nil fun w A hs=>by simp only[FV.den,SV.den];exact aZ ⟨trivial,rfl⟩ hs
   ·simp only[aC,Option.some.injEq] at h;subst h;exact nil fun w A hs=>by simp only[FV.den,SV.den];exact aZ ⟨trivial,ho⟩ hs
   ·simp at h
  |sl T sz=>
   simp only[hG] at h;split at h
   ·split at h
    ·simp only[aC,Option.some.injEq] at h;subst h;exact nil fun w A hs=>by simp only[FV.den,SV.den,slD];rw[aL];refine⟨[],?_⟩;rw[aA];refine aZ (by simp) ?_;rw[aA,aL];refine⟨(0,0,0,0),?_⟩;rw[aA];exact aZ rfl (aZ ⟨rfl,rfl⟩ (by simpa [FV.dens,aH] using hs))
    ·simp at h
   ·simp only[aQ] at h;split at h
    ·rename_i hc;simp only[aC,Option.some.injEq] at h;subst h;exact slc hc ho.1 ho.2.1 ho.2.2.1 ho.2.2.2.1 ho.2.2.2.2
    ·simp at h
   ·simp at h
 intro fuel;induction fuel with
 |zero=>
  intro k x r h ho
  by_cases hk:k=.st
  ·subst hk;simp[hG] at h
  ·by_cases hk2:k=.fn
   ·subst hk2;simp[hG] at h
   ·exact leaf 0 k x r hk hk2 h ho
 |succ fuel ih=>
  intro k x r h ho
  by_cases hk:k=.st
  ·subst hk;simp only[hG] at h;split at h
   ·split at h
    ·simp only[aC,Option.some.injEq] at h;subst h;exact nil fun w A hs=>by simp only[FV.den,SV.den];exact aZ trivial hs
    ·simp at h
   ·split at h
    ·simp only[aQ] at h;split at h
     ·rename_i hc;simp only[aC,Option.some.injEq] at h;subst h;simp only at ho;subst ho;refine⟨fun L w F _ hN hs=>?_,fun _ h=>(by cases h)⟩;have:=mA hs (j8 hc hN) (t7 _ _ _);simp only[FV.den,SV.den];exact sZ this
     ·split at h
      ·rename_i cs hc _ ks hks;simp only[aE,Option.bind_eq_some_iff] at h;obtain⟨r2,h2,h3⟩:=h;simp only[aC,Option.some.injEq] at h3;subst h3;obtain⟨e,ho2⟩:=ho;subst e;obtain⟨b1,b2⟩:=qU (fun k x r=>ih k x r) ks _ r2 h2 ho2;refine⟨fun L w F hS hN hs=>?_,fun y hy=>?_⟩
       ·have s2:=b2 L w F (fun y hy=>hS y (List.mem_cons_of_mem _ hy)) hN hs;have s3:=aI (B:=star (big L) (star (FV.dens r2.fs (SV.dens cs)) F)) s2 (by ac_rfl);have s4:=mA s3 (vN hc hS) (uU _ _ _);have hl:=gG s2;simp only[FV.den,SV.den];refine sZ ?_;rw[aL];refine⟨SV.dens cs,?_⟩;simp only[Cel.den] at s4;rw[bD] at hl;rw[hl];exact aI s4 (by simp only[dH];ac_rfl)
       ·rcases List.mem_cons.1 hy with rfl|hy
        ·exact⟨_,by rw[hc];rfl,B7 hc⟩
        ·exact b1 y hy
      ·simp at h
     ·simp at h
    ·simp at h
   ·simp only[aQ] at h;split at h
    ·rename_i hc;simp only[aC,Option.some.injEq] at h;subst h;exact imm hc ho
    ·simp at h
   ·simp at h
  ·by_cases hk2:k=.fn
   ·subst hk2;simp only[hG] at h;split at h
    ·rename_i f y;simp only[aE,Option.bind_eq_some_iff] at h;obtain⟨r2,h2,h3⟩:=h;simp only[aC,Option.some.injEq] at h3;subst h3;obtain⟨b1,b2⟩:=ih .st y r2 h2 ho;refine⟨fun L w F hS hN hs=>?_,b2⟩;have h4:=b1 L w F hS hN hs;simp only[FV.den,SV.den,SV.dens];rw[aL];refine⟨y.den,?_⟩;rw[aA];exact aZ rfl h4
    ·simp at h
   ·exact leaf (fuel+1) k x r hk hk2 h ho
theorem tP {σ:List C} {w:World} {F:HProp}:∀(ps:List (W Pay)) (L:List C),nR σ ps→L.length=σ.length→oR σ L→sat w (star (big L) F)→
  sat w (star (big (puts ps L)) F)∧oR σ (puts ps L)∧(∀p,L.getD p .nil=iR (σ.getD p .nil)→(puts ps L).getD p .nil=iR (σ.getD p .nil))∧nJ σ (puts ps L) ps
 |[],L,_,_,hN,hs=>⟨hs,hN,fun _ h=>h,fun _ h=>by cases h⟩|x::ps,L,hW,hl,hN,hs=>by
  obtain⟨p,rfl,hp⟩:=hW _ (List.mem_cons_self ..);have hp':p<L.length:=by omega
  have hget:∀q,(L.set p (iR (σ.getD p .nil))).getD q .nil=if q=p then iR (σ.getD p .nil) else L.getD q .nil:=by
   intro q
   by_cases e:q=p
   ·subst e;simp[List.getD_eq_getElem?_getD,hp']
   ·rw[if_neg e,gP (fun h=>e h.symm)]
  have hN':oR σ (L.set p (iR (σ.getD p .nil))):=by
   intro q;rw[hget]
   by_cases e:q=p
   ·subst e;rw[if_pos rfl];exact .inr rfl
   ·rw[if_neg e];exact hN q
  have hs':sat w (star (big (L.set p (iR (σ.getD p .nil)))) F):=by
   rw[dW _ _ _ hp',aA];have h1:=jI (p:=p) hs;have key:∀c:C,∀A,sat w (star c.den A)→sat w (star ((iR c).den) A):=by
    intro c A h;cases c with
    |raw own b T cs=>
     cases own with
     |false=>exact h|true=>simp only[iR,Cel.den,aA] at h⊢;rw[aM] at h⊢;exact eT _ _ h
    |_=>exact h
   rcases hN p with e|e
   ·rw[e] at h1;exact key _ _ h1
   ·rw[e] at h1;exact h1
  obtain⟨a,b,c,d⟩:=tP ps _ (fun y hy=>hW y (List.mem_cons_of_mem _ hy)) (by simpa using hl) hN' hs';refine⟨a,b,fun q hq=>c q ?_,fun y hy=>?_⟩
  ·rw[hget]
   by_cases e:q=p
   ·subst e;rw[if_pos rfl]
   ·rw[if_neg e];exact hq
  ·rcases List.mem_cons.1 hy with rfl|hy
   ·exact⟨p,_,rfl,c p (by rw[hget,if_pos rfl])⟩
   ·exact d y hy
def FV.elems:FV→List Value→HProp
 |.ul T k n l,vs=>pure' (vs=l.map (.int k)∧l.length=n)|.sl T sz n l,vs=>star (pure' (vs.length=n*sz)) (FV.dens l vs)|_,_=>pure' False
def FV.ty:FV→TypeId
 |.ul T _ _ _=>T|.sl T _ _ _=>T|_=>0
def FV.isRow:FV→Bool
 |.ul _ _ _ _=>true|.sl _ _ _ _=>true|_=>false
theorem kM {w:World} {f:FV} {vs:List Value} {A:HProp} (h:sat w (star (f.elems vs) A)):vs.length=f.len*f.sz:=by
 cases f with
 |ul T k n l=>obtain⟨rfl,h2⟩:=cF h;simp[FV.len,FV.sz,h2]
 |sl T sz n l=>simp only[FV.elems,aA] at h;exact cF h|_=>exact(cF h).elim
theorem GJ {w:World} {f:FV} {x:Value} {A:HProp} (h:sat w (star (f.den x) A)):x.oneCell'=true:=by
 obtain⟨β,e,h2⟩:=lX 0 h;subst e;cases f with
 |oi T k o=>cases o<;>rfl|ob T o=>cases o<;>rfl|bys T n o=>rfl|sc v=>simp only[cP,pL];simp only[FV.den] at h;exact(cF h).2|_=>rfl
theorem qE {w:World}:∀{l:List FV} {vs:List Value} {A:HProp},sat w (star (FV.dens l vs) A)→∀u∈vs,u.oneCell'=true
 |[],[],_,_,_,h=>by cases h
 |f::l,v::vs,A,h,u,hu=>by
  simp only[FV.dens,aA] at h;rcases List.mem_cons.1 hu with rfl|hu
  ·exact GJ h
  ·exact qE h.snd u hu
 |[],v::vs,A,h,_,_=>by simp only[FV.dens] at h;exact(cF h).elim
 |f::l,[],A,h,_,hu=>by cases hu
theorem AX {w:World} {f:FV} {vs:List Value} {A:HProp} (h:sat w (star (f.elems vs) A)):∀u∈vs,u.oneCell'=true:=by
 cases f with
 |ul T k n l=>obtain⟨rfl,h2⟩:=cF h;intro u hu;obtain⟨n,_,rfl⟩:=List.mem_map.1 hu;rfl
 |sl T sz n l=>simp only[FV.elems,aA] at h;exact qE (aB.1 h).2|_=>exact(cF h).elim
theorem cS {w:World} {nn b off cap:Nat} {f:FV} {A:HProp} (hf:f.isRow=true):sat w (star (f.row nn b off cap) A)↔∃vs,sat w (star (slR f.ty f.sz vs nn b off cap) (star (f.elems vs) A)):=by
 cases f with
 |ul T k n l=>
  simp only[FV.row,FV.ty,FV.sz,FV.elems];constructor
  ·intro h;rw[aA,aB] at h;exact⟨_,by rw[aM];exact aZ ⟨rfl,h.1⟩ h.2⟩
  ·rintro⟨vs,h⟩;rw[aM] at h;obtain⟨⟨rfl,h1⟩,h2⟩:=aB.1 h;rw[aA];exact aZ h1 h2
 |sl T sz n l=>
  simp only[FV.row,FV.ty,FV.sz,FV.elems];rw[aL];constructor
  ·rintro⟨vs,h⟩;exact⟨vs,aI h (by ac_rfl)⟩
  ·rintro⟨vs,h⟩;exact⟨vs,aI h (by ac_rfl)⟩
 |_=>cases hf
structure iC where
 na:Nat→Nat→Nat
 ns:Nat→Nat→Nat
 df:List FV→Nat→Nat→Nat→List FV
 di:List Int→Nat→Nat→List Int
 jf:List FV→List FV→List FV
 ji:List Int→List Int→List Int
 mu:Nat→Nat→Nat
def cC:iC:=⟨fun a b=>a+b,fun a b=>a-b,fun l lo hi sz=>(l.drop (lo*sz)).take ((hi-lo)*sz),fun l lo hi=>(l.drop lo).take (hi-lo),fun l l'=>l++l',fun l l'=>l++l',fun a b=>a*b⟩
theorem EL {na ns:Nat→Nat→Nat} {df:List FV→Nat→Nat→Nat→List FV} {di:List Int→Nat→Nat→List Int} {jf:List FV→List FV→List FV} {ji:List Int→List Int→List Int} {mu:Nat→Nat→Nat}
  (h:iC.mk na ns df di jf ji mu=cC):na=(fun a b=>a+b)∧ns=(fun a b=>a-b)∧df=(fun l lo hi sz=>(l.drop (lo*sz)).take ((hi-lo)*sz))∧di=(fun l lo hi=>(l.drop lo).take (hi-lo))∧jf=(fun l l'=>l++l')∧ji=(fun l l'=>l++l')∧mu=fun a b=>a*b:=by
 cases h;exact⟨rfl,rfl,rfl,rfl,rfl,rfl,rfl⟩
def mJ (NA:iC):FV→FV→Option FV
 |.ul T k n l,.ul _ k' n' l'=>match decEq k k' with
  |isTrue _=>some (.ul T k (NA.na n n') (NA.ji l l'))|isFalse _=>none
 |.sl T sz n l,.sl _ sz' n' l'=>match Nat.beq sz sz' with
  |true=>some (.sl T sz (NA.na n n') (NA.jf l l'))|false=>none
 |_,_=>none
theorem oE:∀(l l':List FV) (vs us:List Value),l.length=vs.length→star (FV.dens l vs) (FV.dens l' us)=FV.dens (l++l') (vs++us)
 |[],l',[],us,_=>by simp[FV.dens,aH]
 |f::l,l',v::vs,us,h=>by simp only[FV.dens,List.cons_append,aA];rw[oE l l' vs us (by simpa using h)]
 |[],_,_::_,_,h=>by simp at h
 |_::_,_,[],_,h=>by simp at h
theorem wK {NA:iC} (hNA:NA=cC) {w:World} {f g fg:FV} {vs us:List Value} {A:HProp} (hj:mJ NA f g=some fg) (h:sat w (star (f.elems vs) (star (g.elems us) A))):
  sat w (star (fg.elems (vs++us)) A)∧fg.len=f.len+g.len∧fg.sz=f.sz∧fg.ty=f.ty∧f.isRow=true∧g.isRow=true∧g.sz=f.sz∧fg.isRow=true:=by
 subst hNA;cases f with
 |ul T k n l=>
  cases g with
  |ul T' k' n' l'=>
   simp only[mJ,cC] at hj;split at hj
   ·rename_i e _;subst e;cases hj;refine⟨?_,by simp[FV.len],rfl,rfl,rfl,rfl,rfl,rfl⟩;obtain⟨⟨e1,e3⟩,h1⟩:=aB.1 h;obtain⟨⟨e2,e4⟩,h2⟩:=aB.1 h1;subst e1;subst e2;exact aZ (by simp[e3,e4]) h2
   ·cases hj
  |_=>simp[mJ] at hj
 |sl T sz n l=>
  cases g with
  |sl T' sz' n' l'=>
   simp only[mJ,cC] at hj;split at hj
   ·rename_i e;have e:=Nat.eq_of_beq_eq_true e;subst e;cases hj;refine⟨?_,by simp[FV.len],rfl,rfl,rfl,rfl,rfl,rfl⟩;simp only[FV.elems,aA] at h⊢;obtain⟨h1,h⟩:=aB.1 h;rw[aM] at h;obtain⟨h2,h⟩:=aB.1 h;refine aZ (by simp[h1,h2,Nat.add_mul]) ?_;have hl:=gG h;rw[←aA,oE _ _ _ _ hl] at h;exact h
   ·cases hj
  |_=>simp[mJ] at hj
 |_=>simp[mJ] at hj
def repK (ks:List FK):Nat→List FK
 |0=>[]|n+1=>ks++repK ks n
def nK (k:IntKind):List SV→Option (List Int)
 |[]=>some []|x::r=>match bG x with
  |some (_,k',n)=>match decEq k k' with
   |isTrue _=>match nK k r with
    |some l=>some (n::l)|none=>none
   |isFalse _=>none
  |none=>none
theorem jB {k:IntKind}:∀{cs:List SV} {l:List Int},nK k cs=some l→SV.dens cs=l.map (.int k)
 |[],l,h=>by simp only[nK,Option.some.injEq] at h;subst h;rfl
 |x::cs,l,h=>by
  simp only[nK] at h;split at h
  ·rename_i hi;split at h
   ·rename_i e _;subst e;split at h
    ·rename_i l' h2;cases h;simp only[SV.dens,List.map_cons,d8 hi,jB h2]
    ·cases h
   ·cases h
  ·cases h
def mE (e:TypeId) (k:TK) (sz:Nat):FV:=match k with
 |.int k=>.ul e k 0 []|_=>.sl e sz 0 []
section
variable (KF KE:TypeId→Option (List FK))
def BL (e:TypeId) (sz:Nat) (k:TK) (x:SV):SM Pay Fd:=match x with
 |.sl h nn b off n cap=>.rdC h fun c=>match c with
  |.prd (.sl sp nn' b' off' cap' f)=>match f.isRow&&Nat.beq f.sz sz with
   |true=>.ret {f:=f,obl:=nn=nn'∧b=b'∧off=off'∧cap=cap'∧n=f.len}|false=>.fail
  |_=>.fail
 |.v v=>match v with
  |.slice none 0 0=>match Nat.beq (mE e k sz).sz sz with
   |true=>.ret {f:=mE e k sz}|false=>.fail
  |_=>.fail
 |.hv h v=>match v with
  |.slice (some ⟨b,0,none⟩) n cap=>.rdC h fun c=>match c with
   |.raw own b' T cs=>match Nat.beq cs.length (n*sz) with
    |true=>match k with
     |.int k=>match Nat.beq sz 1 with
      |true=>match nK k cs with
       |some l=>.ret {f:=.ul e k n l,obl:=b=b'}|none=>.fail
      |false=>.fail
     |_=>match KE e with
      |some ks=>(oG (hG KF 9) (repK ks n) cs).bind fun r=>.ret {f:=.sl e sz n r.fs,ps:=r.ps,obl:=b=b'∧r.obl}|none=>.fail
    |false=>.fail
   |_=>.fail
  |_=>.fail
 |_=>.fail
theorem A6 {σ L:List C} {h:Nat} {own:Bool} {b:Nat} {T:TypeId} {cs:List SV} (hc:σ.getD h .nil=.raw own b T cs) (hN:oR σ L):∃own',L.getD h .nil=.raw own' b T cs:=by
 rcases hN h with e|e<;>rw[e,hc]
 ·exact⟨_,rfl⟩
 ·exact⟨_,rfl⟩
theorem mH {σ L:List C} {F:HProp} {w:World} {h:Nat} {own:Bool} {b:Nat} {T:TypeId} {cs:List SV} (hc:σ.getD h .nil=.raw own b T cs) (hN:oR σ L) (hs:sat w (star (big L) F)):
  ∀j u,(SV.dens cs)[j]?=some u→w.cell? ⟨b,0+j,none⟩=some u:=by
 intro j u hj;have:∃own',L.getD h .nil=.raw own' b T cs:=by
  rcases hN h with e|e<;>rw[e,hc]
  ·exact⟨_,rfl⟩
  ·exact⟨_,rfl⟩
 obtain⟨own',hL⟩:=this;have h1:=jI (p:=h) hs;rw[hL] at h1;simp only[Cel.den,aA] at h1;exact(aX _ 0 h1.snd j u hj).1
theorem N8 {P:Program} {σ:St Pay} {e tx e':TypeId} {sz:Nat} {k:TK} {x:SV} {r:Fd} (hk:P.underlying tx=some (.slice e')) (hsz:0<sz) (h:(BL KF KE e sz k x).val σ=some r) (ho:r.obl):
  nR σ.heap r.ps∧∀(L:List C) (w:World) (F:HProp),nJ σ.heap L r.ps→oR σ.heap L→sat w (star (big L) F)→∃news,Src P sz tx x.den r.f.len news w∧sat w (star (r.f.elems news) (star (big L) F)):=by
 simp only[BL] at h;split at h
 ·simp only[aQ] at h;split at h
  ·rename_i hc;split at h
   ·rename_i hf;simp only[Bool.and_eq_true] at hf;have e1:=Nat.eq_of_beq_eq_true hf.2;simp only[aC,Option.some.injEq] at h;subst h;obtain⟨a1,a2,a3,a4,a5⟩:=ho;subst a1;subst a2;subst a3;subst a4;subst a5;refine⟨fun _ h=>(by cases h),fun L w F hS hN hs=>?_⟩;have h1:=bY (j8 hc hN) hs;rw[cS hf.1] at h1;obtain⟨vs,h1⟩:=h1;have h2:=h1;rw[aM] at h2;have hl:=kM h2;rw[e1] at hl h1
    exact⟨vs,zA hk hl hsz h1 (AX h2),sat.mono h2 (eD.star (eD.refl _) fun m i hm=>by
     obtain⟨m₁,m₂,d,e,a,b⟩:=hm;have:=aU.slR _ _ _ _ _ _ _ _ _ a
     subst this;subst e;rw[cQ];exact b)⟩
   ·simp at h
  ·simp at h
 ·split at h
  ·split at h
   ·rename_i hf;have e1:=Nat.eq_of_beq_eq_true hf;simp only[aC,Option.some.injEq] at h;subst h;refine⟨fun _ h=>(by cases h),fun L w F hS hN hs=>⟨[],?_,?_⟩⟩
    ·have:(mE e k sz).len=0:=by unfold mE;split<;>rfl
     rw[this];exact Src.ofNil w hk 0
    ·unfold mE;split
     ·exact aZ ⟨rfl,rfl⟩ hs
     ·simp only[FV.elems,aA];exact aZ (by simp) (by simpa [FV.dens,aH] using hs)
   ·simp at h
  ·simp at h
 ·split at h
  ·simp only[aQ] at h;split at h
   ·rename_i cs hc;split at h
    ·rename_i hl;have hl:=Nat.eq_of_beq_eq_true hl;split at h
     ·split at h
      ·rename_i h1;have h1:=Nat.eq_of_beq_eq_true h1;subst h1;split at h
       ·rename_i l hi;simp only[aC,Option.some.injEq] at h;subst h;simp only at ho;subst ho;have hd:=jB hi;refine⟨fun _ h=>(by cases h),fun L w F hS hN hs=>?_⟩;have hlen:=congrArg List.length hd;rw[bD,hl] at hlen;simp only[Nat.mul_one,List.length_map] at hlen;refine⟨_,?_,aZ ⟨rfl,hlen.symm⟩ hs⟩;simp only[FV.len,SV.den];refine Src.ofSlice w hk _ _ _ _ (by simp[hlen]) (fun j u hj=>?_) (fun u hu=>?_)
        ·rw[←hd] at hj;rw[Addr.add_lit];exact mH hc hN hs j u hj
        ·obtain⟨n,_,rfl⟩:=List.mem_map.1 hu;rfl
       ·simp at h
      ·simp at h
     ·split at h
      ·simp only[aE,Option.bind_eq_some_iff] at h;obtain⟨r2,h2,h3⟩:=h;simp only[aC,Option.some.injEq] at h3;subst h3;obtain⟨e2,ho2⟩:=ho;subst e2;obtain⟨b1,b2⟩:=qU (fun k x r=>pA KF 9 k x r) _ _ r2 h2 ho2;refine⟨b1,fun L w F hS hN hs=>?_⟩;have s2:=b2 L w F hS hN hs;refine⟨SV.dens cs,?_,?_⟩;rotate_left
       ·simp only[FV.elems,aA];exact aZ (by rw[bD,hl]) s2
       ·simp only[FV.len,SV.den];refine Src.ofSlice w hk _ _ _ _ (by rw[bD,hl]) (fun j u hj=>by rw[Addr.add_lit];exact mH hc hN hs j u hj) (qE s2)
      ·simp at h
    ·simp at h
   ·simp at h
  ·simp at h
 ·simp at h
structure Dst where
 f:FV
 ws:List (W Pay):=[]
 obl:Prop:=True
def ER (e:TypeId) (sz:Nat) (k:TK) (x:SV):SM Pay Dst:=match x with
 |.sl h nn b off n cap=>.rdC h fun c=>match c with
  |.prd (.sl sp nn' b' off' cap' f)=>.ret {f:=f,ws:=[.cel h (.prd (.sl false nn b off cap f))],obl:=nn=nn'∧b=b'∧off=off'∧cap=cap'∧n=f.len∧(match sp with|true=>True|false=>Nat.ble cap f.len=true)}|_=>.fail
 |.v v=>match v with
  |.slice none 0 0=>.ret {f:=mE e k sz}|_=>.fail
 |.hv h v=>match v with
  |.slice (some ⟨b,0,none⟩) 0 0=>.rdC h fun c=>match c with
   |.raw own b' T cs=>match cs with
    |[]=>.ret {f:=mE e k sz,obl:=b=b'∧e=T}|_=>.fail
   |_=>.fail
  |_=>.fail
 |_=>.fail
variable (TT:TypeId→Option TyI) (CM:mU→Int→Int→Bool) (NA:iC)
def l8 (base:Nat) (args:List Operand) (ts:List TypeId) (β:Nat→Nat):SM Pay (Delta Pay):=match args,ts with
 |[s,x],[t,tx]=>match TT t with
  |some ⟨_,_,_,.slice e⟩=>match TT tx with
   |some ⟨_,_,_,.slice _⟩=>match TT e with
    |some ⟨sz,_,z,k⟩=>(ev x).bind fun vx=>(BL KF KE e sz k vx).bind fun g=>(ev s).bind fun vs=>(ER e sz k vs).bind fun d=>match mJ NA d.f g.f with
     |some fg=>.rdC base fun c0=>match c0 with
      |.free=>match Nat.blt 0 sz&&Nat.beq d.f.sz sz with
       |true=>.ret {res:=.sl base (β 0) (β 1) (β 2) (NA.na d.f.len g.f.len) (β 3),ws:=g.ps++(d.ws++[.cel base (.prd (.sl true (β 0) (β 1) (β 2) (β 3) fg))]),obl:=g.obl∧d.obl∧d.f.ty=e∧z.den.cells.size=sz∧CM .le (Int.ofNat (NA.na d.f.len g.f.len)) 4294967296=true}|false=>.fail
      |_=>.fail
     |none=>.fail
    |none=>.fail
   |_=>.fail
  |_=>.fail
 |_,_=>.fail
theorem OH {σ:St Pay} {e:TypeId} {sz:Nat} {k:TK} {x:SV} {d:Dst} (h:(ER e sz k x).val σ=some d) (ho:d.obl) (hf:d.f.isRow=true) (hty:d.f.ty=e) (hdz:d.f.sz=sz) {base:Nat} {L:List C} {w:World} {F A:HProp}
  (hN:oR σ.heap L) (hbase:L.getD base .nil=.free) (hs:sat w (star A (star (big L) F))):
  ∃(nn b off cap:Nat) (sp:Bool) (vs:List Value) (B:HProp),x.den=.slice (slA nn b off) d.f.len cap∧(sp=true∨Nat.ble cap d.f.len=true)∧vs.length=d.f.len*sz∧
   sat w (star (slR e sz vs nn b off cap) (star (eM sp (bU nn b off (d.f.len*sz) (cap*sz))) (star (d.f.elems vs) (star A B))))∧
   ∀c:C,eD (star c.den B) (star (big (puts (d.ws++[.cel base c]) L)) F):=by
 have hb:=iM hbase;have hput:∀(L:List C),base<L.length→L.getD base .nil=.free→∀c:C,big (L.set base c)=star c.den (big L):=by intro L hb hfree c;rw[dW _ _ _ hb,bV L base,hfree];simp[Cel.den,aH]
 simp only[ER] at h;split at h
 ·simp only[aQ] at h;split at h
  ·rename_i hd nn b off n cap _ sp nn' b' off' cap' f hc;simp only[aC,Option.some.injEq] at h;subst h;obtain⟨a1,a2,a3,a4,a5,a6⟩:=ho;subst a1;subst a2;subst a3;subst a4;subst a5;simp only at hf hty hdz⊢;have hL:=j8 hc hN;have hlt:hd<L.length:=jG (by rw[hL];exact fun e=>by cases e);have hne:hd≠base:=fun e=>by subst e;rw[hL] at hbase;cases hbase
   rw[bV L hd,hL] at hs;simp only[Cel.den,PayDen.den] at hs;have hs1:sat w (star (f.row nn b off cap) (star (eM sp (bU nn b off (f.len*f.sz) (cap*f.sz))) (star A (star (big (L.set hd .nil)) F)))):=aI hs (by ac_rfl);have hs2:=lA (aU.row nn b off cap f) hs1;rw[cS hf] at hs2;obtain⟨vs,hs2⟩:=hs2;have hl:=kM (aI (B:=star (f.elems vs) _) hs2 (aM _ _ _));rw[hty,hdz] at hs2;rw[hdz] at hl;refine⟨nn,b,off,cap,sp,vs,star (f.row nn b off cap) (star (big (L.set hd .nil)) F),rfl,?_,hl,aI hs2 (by ac_rfl),fun c=>?_⟩
   ·cases sp with
    |true=>exact .inl rfl|false=>exact .inr a6
   ·simp only[List.cons_append,List.nil_append,puts,W.put];rw[hput _ (by simpa using hb) (by rw[gP hne];exact hbase),dW L hd (.prd (.sl false nn b off cap f)) hlt];rw[show (Cel.prd (Pay.sl false nn b off cap f):C).den=star (f.row nn b off cap) emp from rfl,aO];simp only[aA];exact eD.refl _
  ·simp at h
 ·split at h
  ·simp only[aC,Option.some.injEq] at h;subst h;simp only at hf hty hdz⊢;have hl0:(mE e k sz).len=0:=by unfold mE;split<;>rfl
   rw[hl0];refine⟨0,0,0,0,false,[],star (big L) F,rfl,.inr rfl,by simp,?_,fun c=>?_⟩
   ·simp only[slR,eM,aH];refine aZ (by simp) ?_;unfold mE;split
    ·exact aZ ⟨rfl,rfl⟩ hs
    ·simp only[FV.elems,aA];exact aZ (by simp) (by simpa [FV.dens,aH] using hs)
   ·simp only[List.nil_append,puts,W.put];rw[hput L hb hbase,aA];exact eD.refl _
  ·simp at h
 ·split at h
  ·simp only[aQ] at h;split at h
   ·rename_i hc;split at h
    ·simp only[aC,Option.some.injEq] at h;subst h;obtain⟨a1,a2⟩:=ho;subst a1;subst a2;simp only at hf hty hdz⊢;have hL:=A6 hc hN;rename_i bq cq oq csq;obtain⟨own',hL⟩:=hL;have hl0:(mE e k sz).len=0:=by unfold mE;split<;>rfl
     rw[hl0];have h1:=mA (F:=star A F) (aI hs (by ac_rfl)) hL (by simp only[Cel.den,SV.dens,aG,List.length_nil];exact(aU.ipts _ _).star aU.emp);simp only[Cel.den,SV.dens,aG,List.length_nil,aO] at h1;refine⟨1,_,0,0,false,[],star (big L) F,rfl,.inr rfl,by simp,?_,fun c=>?_⟩
     ·simp only[slR,eM,aH,rowD];rw[aL];refine⟨0,?_⟩;rw[aA];refine aZ (by simp) ?_;simp only[dH,aG,aO];have h2:=aI (B:=star A (star (hdr bq e 0) (star (big L) F))) h1 (by ac_rfl);have h3:sat w (star ((mE e k sz).elems []) (star A (star (hdr bq e 0) (star (big L) F)))):=by
       unfold mE;split
       ·exact aZ ⟨rfl,rfl⟩ h2
       ·simp only[FV.elems,aA];exact aZ (by simp) (by simpa [FV.dens,aH] using h2)
      exact aI h3 (by ac_rfl)
     ·simp only[List.nil_append,puts,W.put];rw[hput L hb hbase,aA];exact eD.refl _
    ·simp at h
   ·simp at h
  ·simp at h
 ·simp at h
theorem oA (xs ys:List (W Pay)) (L:List C):puts (xs++ys) L=puts ys (puts xs L):=by
 induction xs generalizing L with
 |nil=>rfl|cons x xs ih=>simp only[List.cons_append,puts,ih]
theorem vY (hNA:NA=cC) {P:Program} {AR:lT→IntKind→Int→Int→Int} {SE:ByteArray→ByteArray→Bool} (hS:Std P TT AR CM SE) (hby:∀t i,(TT t).isSome=true→P.info? t=some i→i.bytes≤32768)
  (o:Oper) (base:Nat) (args:Array Operand) (ts:Array TypeId) (ho:o.op=.call ⟨.builtin .append,args,ts⟩):bT P o (l8 KF KE TT CM NA base args.toList ts.toList):=by
 subst hNA;intro σ F a w next Q hm hv hout hk
 obtain⟨d0,hv0,hob0⟩:=hv (fun _=>0);obtain⟨args⟩:=args;obtain⟨ts⟩:=ts;simp only at hv hk hv0;unfold l8 at hv0;split at hv0
 ·rename_i s x t tx;have hv2:=hv;have hk2:=hk;simp only[l8] at hv2 hk2;split at hv0
  ·rename_i n1 g1 z1 e ht;split at hv0
   ·rename_i n2 g2 z2 e' htx;split at hv0
    ·rename_i sz g3 z k he;simp only[aE,Option.bind_eq_some_iff] at hv0;obtain⟨vx,h1,g,h2,vs,h3,d,h4,h5⟩:=hv0;simp only[ht,htx,he,aE,h1,h2,h3,h4,Option.bind_some] at hv2 hk2;split at h5
     ·rename_i fg hj;simp only[hj,aQ] at hv2 hk2 h5;split at h5
      ·rename_i hfree;simp only[hfree] at hv2 hk2;split at h5
       ·rename_i hb;simp only[hb] at hv2 hk2;simp only[Bool.and_eq_true] at hb;have hsz:0<sz:=by have:=Nat.le_of_ble_eq_true hb.1;exact this
        have hdz:=Nat.eq_of_beq_eq_true hb.2;obtain⟨d1,hd1,hob⟩:=hv2 (fun _=>0);simp only[aC,Option.some.injEq] at hd1;subst hd1;obtain⟨og,od,oty,oz,ole⟩:=hob;have ole:Nat.ble (d.f.len+g.f.len) 4294967296=true:=by rw[hS.cm] at ole;simp only[cmStd,decide_eq_true_eq,Int.ofNat_eq_natCast] at ole;exact Nat.ble_eq_true_of_le (by(simp only[cC] at*;omega))
        obtain⟨hW,hsrc⟩:=N8 KF KE (x:=vx) (aS (hS.tt _ _ htx).kind|>.2.1 _ rfl) hsz h2 og;obtain⟨s1,s2,_,s4⟩:=tP (F:=F) g.ps σ.heap hW rfl (fun p=>.inl rfl) hm.2.2;obtain⟨news,hsr,hs⟩:=hsrc _ w F s4 s2 s1;have hbL:(puts g.ps σ.heap).getD base .nil=.free:=by rcases s2 base with e|e<;>rw[e,hfree]<;>rfl
        have hjt:=hj;obtain⟨_,_,_,_,hfr,_,_,_⟩:fg.len=d.f.len+g.f.len∧fg.sz=d.f.sz∧fg.ty=d.f.ty∧True∧d.f.isRow=true∧True∧True∧True:=by
         have:∀{f g fg:FV},mJ cC f g=some fg→fg.len=f.len+g.len∧fg.sz=f.sz∧fg.ty=f.ty∧True∧f.isRow=true∧True∧True∧True:=by intro f g fg hj;cases f<;>cases g<;>simp only[mJ,cC,reduceCtorEq] at hj<;>split at hj<;>first|(cases hj;simp[FV.len,FV.sz,FV.ty,FV.isRow])|(cases hj)
         exact this hj
        obtain⟨nn,b,off,cap,sp,vs',B,e1,hsp,hvl,hs2,hback⟩:=OH h4 od hfr oty hdz s2 hbL hs;obtain⟨ti,hti,hts,htz⟩:=(hS.tt _ _ he).info;simp only at hts htz;obtain⟨nn',b',off',cap',w',hrun,hs3⟩:=xW (P:=P) (ty:=o.type) (aS (hS.tt _ _ ht).kind|>.2.1 _ rfl) hti htz hts oz hsz (hby _ _ (by rw[he];rfl) hti) hvl hs2 hsr rfl hsp ole;left;unfold Oper.wp;have hex:(execOp a.eval o).run P w=.ok (.value (.slice (slA nn' b' off') (d.f.len+g.f.len) cap')) w':=by
         have ea: #[a.eval s,a.eval x]= #[Value.slice (slA nn b off) d.f.len cap,vx.den]:=by rw[aK hm h3,e1,aK hm h1]
         simp only[execOp,ho,resolve,List.map_toArray,List.map_cons,List.map_nil,ea,Sem.run_bind,Sem.run_pure,Result.andThen_ok,invoke,builtin,hrun]
        rw[hex];refine hk2 (fun|0=>nn'|1=>b'|2=>off'|_=>cap') _ w' rfl trivial ?_;simp only[oA];rw[←oA];refine sat.mono ?_ (hback _);have hs4:=aI (B:=star (d.f.elems vs') (star (g.f.elems news) (star (slR e sz (vs'++news) nn' b' off' cap') (star (bU nn' b' off' ((d.f.len+g.f.len)*sz) (cap'*sz)) B)))) hs3 (by ac_rfl);obtain⟨j1,j2,j3,j4,_,_,_,j5⟩:=wK rfl hj hs4;simp only[Cel.den,PayDen.den,eM,aA];rw[cS j5,j2,j3,j4,hdz,oty];exact⟨_,aI j1 (by ac_rfl)⟩
       ·simp at h5
      ·simp at h5
     ·simp at h5
    ·simp at hv0
   ·simp at hv0
  ·simp at hv0
 ·simp at hv0
end
def nth:List FV→Nat→FV
 |[],_=>.np|x::_,0=>x|_::r,n+1=>nth r n
def dI:List Int→Nat→Int
 |[],_=>0|x::_,0=>x|_::r,n+1=>dI r n
theorem pB:∀{l:List FV} {j:Nat},j<l.length→l[j]?=some (nth l j)
 |[],j,h=>by simp at h
 |x::r,0,_=>rfl|x::r,j+1,h=>by simpa [nth] using pB (by simpa using h)
theorem cO:∀{l:List Int} {j:Nat},j<l.length→l[j]?=some (dI l j)
 |[],j,h=>by simp at h
 |x::r,0,_=>rfl|x::r,j+1,h=>by simpa [dI] using cO (by simpa using h)
section
variable {P:Program}
variable (TT:TypeId→Option TyI) (AR:lT→IntKind→Int→Int→Int) (CM:mU→Int→Int→Bool) (SE:ByteArray→ByteArray→Bool)
def BW (sz:ByteArray→Nat) (args:List Operand) (ts:List TypeId):SM Pay (Delta Pay):=match args,ts with
 |[x],[t]=>match TT t with
  |some ⟨_,_,_,k⟩=>(ev x).bind fun v=>match k with
   |.slice _=>match v with
    |.sl _ _ _ _ n _=>.ret {res:=.i .i64 n}|.hv _ (.slice _ n _)=>.ret {res:=.i .i64 n}|.v (.slice none 0 _)=>.ret {res:=.lit .i64 0}|_=>.fail
   |.str=>match v with
    |.v (.string s)=>.ret {res:=.i .i64 (sz s)}|_=>.fail
   |_=>.fail
  |none=>.fail
 |_,_=>.fail
theorem eB {w:World} {a:Act} {o:Oper} {b:Builtin} {args:Array Operand} {ts:Array TypeId} (ho:o.op=.call ⟨.builtin b,args,ts⟩):
  ∃cs,(execOp a.eval o).run P w=(builtin b ts o.type cs (args.map a.eval)).run P w:=by
 simp only[execOp,ho,resolve,Sem.run_bind,Sem.run_pure,Result.andThen_ok,invoke];exact⟨_,rfl⟩
theorem cT {o:Oper} {f:(Nat→Nat)→SM Pay (Delta Pay)} {σ:St Pay} {F:HProp} {a:Act} {w:World} {next:Act→World→Prop} {Q:Exit→Act→World→Prop} (hm:cD σ F a w)
  (hv:∀β,∃d,(f β).val σ=some d∧d.obl) (hk:∀β d w',(f β).val σ=some d→d.factP→sat w' (star (big (puts d.ws σ.heap)) F)→next (a.put o.dst d.res.den) w')
  (h:∃β,∀d,(f β).val σ=some d→d.obl→d.fact=none∧(execOp a.eval o).run P w=.ok (.value d.res.den) w∧sat w (star (big (puts d.ws σ.heap)) F)):
  Oper.wp P o a w next Q∨(Oper.asks P o a w∧LetsOut Q):=by
 obtain⟨β,h⟩:=h;obtain⟨d,e,ho⟩:=hv β;obtain⟨hfact,hrun,hs⟩:=h d e ho;left;unfold Oper.wp;rw[hrun];exact hk β d w e (by rw[Delta.factP,hfact];trivial) hs
theorem EO {sz:ByteArray→Nat} (hsz:sz=fun s=>s.size) (hS:Std P TT AR CM SE) (o:Oper) (args:Array Operand) (ts:Array TypeId) (ho:o.op=.call ⟨.builtin .len,args,ts⟩):bT P o fun _=>(BW TT sz args.toList ts.toList:SM Pay (Delta Pay)):=by
 subst hsz;apply bT.pure;intro σ F a w d hm hv hobl;obtain⟨args⟩:=args;obtain⟨ts⟩:=ts;obtain⟨cs,hrun⟩:=eB (P:=P) (w:=w) (a:=a) ho;rw[hrun];simp only[BW] at hv;split at hv
 ·split at hv
  ·rename_i ht;simp only[aE,Option.bind_eq_some_iff] at hv;obtain⟨v,h1,h2⟩:=hv;have e:=aK hm h1;have hk:=aS (hS.tt _ _ ht).kind;split at h2
   ·have hu:=hk.2.1 _ rfl;split at h2
    ·simp only[aC,Option.some.injEq] at h2;subst h2;exact⟨rfl,rfl,by simp[builtin,Builtin.len_,run_underlying hu,e,SV.den,goInt]⟩
    ·simp only[aC,Option.some.injEq] at h2;subst h2;exact⟨rfl,rfl,by simp[builtin,Builtin.len_,run_underlying hu,e,SV.den,goInt]⟩
    ·simp only[aC,Option.some.injEq] at h2;subst h2;exact⟨rfl,rfl,by simp[builtin,Builtin.len_,run_underlying hu,e,SV.den,goInt]⟩
    ·simp at h2
   ·have hu:=hk.2.2.2.2.2.2.1 rfl;split at h2
    ·simp only[aC,Option.some.injEq] at h2;subst h2;exact⟨rfl,rfl,by simp[builtin,Builtin.len_,run_underlying hu,e,SV.den,goInt]⟩
    ·simp at h2
   ·simp at h2
  ·simp at hv
 ·simp at hv
def ID (op:lT) (args:List Operand):SM Pay (Delta Pay):=match args with
 |[x,y]=>(ev x).bind fun v=>(ev y).bind fun u=>match bG v,bG u with
  |some (l,k,n),some (l',_,m)=>.ret {res:=xO AR (l&&l') op k n m}|_,_=>.fail
 |_=>.fail
theorem zE (hS:Std P TT AR CM SE) (o:Oper) (mx:Bool) (args:Array Operand) (ts:Array TypeId) (ho:o.op=.call ⟨.builtin (if mx then .max else .min),args,ts⟩):
  bT P o fun _=>(ID AR (if mx then .max else .min) args.toList:SM Pay (Delta Pay)):=by
 apply bT.pure;intro σ F a w d hm hv hobl;obtain⟨args⟩:=args;obtain⟨cs,hrun⟩:=eB (P:=P) (w:=w) (a:=a) ho;rw[hrun];simp only[ID] at hv;split at hv
 ·simp only[aE,Option.bind_eq_some_iff] at hv;obtain⟨v,h1,u,h2,h3⟩:=hv;have e1:=aK hm h1;have e2:=aK hm h2;split at h3
  ·rename_i l k n l' k' m hi hj;simp only[aC,Option.some.injEq] at h3;subst h3;refine⟨rfl,rfl,?_⟩;rw[d8 hi] at e1;rw[d8 hj] at e2;have hAR:=hS.ar;subst hAR;have hd:∀op,(xO arStd (l&&l') op k n m).den=.int k (arStd op k n m):=by intro op;unfold xO;split<;>rfl
   simp only[hd];cases mx<;>simp[builtin,Builtin.max_,Builtin.min_,Builtin.max2,Builtin.min2,e1,e2,arStd]
  ·simp at h3
 ·simp at hv
def mR (MU:Nat→Nat→Nat) (m sz:Nat):Nat:=match sz with
 |1=>m|_=>MU m sz
theorem gQ {MU:Nat→Nat→Nat} (h:MU=fun a b=>a*b) (m sz:Nat):mR MU m sz=m*sz:=by subst h;unfold mR;split<;>simp
def pI (MU:Nat→Nat→Nat) (t:TypeId) (x i:Operand):SM Pay (Delta Pay):=(ev x).bind fun v=>match v with
 |.sl h nn b off n _=>match TT t with
  |some ⟨_,_,_,.slice e⟩=>match TT e with
   |some ⟨sz,_,_,_⟩=>(ev i).bind fun j=>match eK j with
    |some (.inl m)=>match nn with
     |0=>.fail|_+1=>.ret {res:=.el h b off (mR MU m sz),obl:=CM .lt (Int.ofNat m) (Int.ofNat n)=true}
    |some (.inr m)=>.rdC h fun c=>match c with
     |.prd (.sl _ nn' b' off' cap' f)=>.ret {res:=.el h b off (mR MU m.toNat sz),obl:=nn=nn'∧n=f.len∧f.isRow=true∧f.sz=sz∧0<sz∧CM .le 0 m=true∧CM .lt m (Int.ofNat n)=true}|.prd (.mr _ _ nn' b' off' cap' n' _)=>.ret {res:=.el h b off (mR MU m.toNat sz),obl:=nn=nn'∧n=n'∧CM .le 0 m=true∧CM .lt m (Int.ofNat n)=true}|.prd (.mo _ nn' b' off' cap' ps)=>.ret {res:=.el h b off (mR MU m.toNat sz),obl:=nn=nn'∧n=ps.length∧CM .le 0 m=true∧CM .lt m (Int.ofNat n)=true}|_=>.fail
    |none=>.fail
   |none=>.fail
  |_=>.fail
 |_=>d7 TT t x i
theorem dG {w:World} {f:FV} {nn b off cap:Nat} {A:HProp} (hf:f.isRow=true) (hl:0<f.len) (hz:0<f.sz) (h:sat w (star (f.row nn b off cap) A)):nn≠0:=by intro e;subst e;rw[cS hf] at h;obtain⟨vs,h⟩:=h;have h2:=kM (aI (B:=star (f.elems vs) _) h (aM _ _ _));obtain⟨rfl,_⟩:=cF h;have:=Nat.mul_pos hl hz;simp at h2;omega
theorem mr_nn {L:List C} {F:HProp} {w:World} {h:Nat} {T:TypeId} {k:IntKind} {nn b off cap n:Nat} {l:List Int} (hc:L.getD h .nil=.prd (.mr T k nn b off cap n l)) (hs:sat w (star (big L) F)) (hn:0<n):nn≠0:=by intro e;subst e;rw[bV L h,hc,aA] at hs;have hs:sat w (star (iG T k 0 b off cap n l) _):=hs;have:=(aB.1 hs).1;omega
theorem mo_nn {L:List C} {F:HProp} {w:World} {h:Nat} {T:TypeId} {nn b off cap:Nat} {l:List (Option Nat)} (hc:L.getD h .nil=.prd (.mo T nn b off cap l)) (hs:sat w (star (big L) F)) (hn:0<l.length):nn≠0:=by intro e;subst e;rw[bV L h,hc,aA] at hs;have hs:sat w (star (lO T 0 b off cap l) _):=hs;have:=(aB.1 hs).1.1;subst this;simp at hn
theorem CA (MU:Nat→Nat→Nat) (hMU:MU=fun a b=>a*b) (hS:Std P TT AR CM SE) (o:Oper) (t:TypeId) (x i:Operand) (ho:o.op=.indexAddr t x i):bT P o fun _=>(pI TT CM MU t x i:SM Pay (Delta Pay)):=by
 intro σ F a w next Q hm hv hout hk
 obtain⟨d,hv0,hob⟩:=hv (fun _=>0);simp only[pI,aE,Option.bind_eq_some_iff] at hv0;obtain⟨v,h1,h2⟩:=hv0;have e:=aK hm h1;have elseC:(∀h nn b off n cap,v≠.sl h nn b off n cap)→Oper.wp P o a w next Q∨(Oper.asks P o a w∧LetsOut Q):=by
  intro hn;have hval:(pI TT CM MU t x i:SM Pay (Delta Pay)).val σ=(d7 TT t x i:SM Pay (Delta Pay)).val σ:=by simp only[pI,aE,h1,Option.bind_some]
  simp only[hval] at hv hk;exact kA TT AR CM SE hS o t x i ho σ F a w next Q hm hv hout hk
 cases v with
 |sl h nn b off n cap=>
  refine cT (f:=fun _=>pI TT CM MU t x i) hm hv hk ⟨fun _=>0,fun d hd hobl=>?_⟩;simp only[pI,aE,h1,Option.bind_some] at hd;split at hd
  ·rename_i ht;have hu:=(aS (hS.tt _ _ ht).kind).2.1 _ rfl;split at hd
   ·rename_i sz g z k he;have hT:=hS.tt _ _ he;have hs:=hT.run_sizeOf w;simp only at hs;simp only[aE,Option.bind_eq_some_iff] at hd;obtain⟨j,h3,h4⟩:=hd;have ej:=aK hm h3;split at h4
    ·rename_i m hi;split at h4
     ·simp at h4
     ·simp only[aC,Option.some.injEq] at h4;subst h4;obtain⟨kk,rfl⟩:∃kk,j=.lit kk (.ofNat m):=by
       cases j with
       |lit kk q=>cases q with
        |ofNat q=>simp only[eK,Option.some.injEq,Sum.inl.injEq] at hi;subst hi;exact⟨kk,rfl⟩|negSucc q=>simp[eK] at hi
       |i kk q=>simp[eK] at hi|_=>simp[eK] at hi
      refine⟨rfl,?_,hm.2.2⟩;have:=cX (P:=P) hu w hs b off kk (.ofNat m) (by simp) (by rw[hS.cm] at hobl;simpa [cmStd] using hobl) (cap:=cap);simp only[execOp,ho,e,ej,SV.den,slA,gQ hMU,Int.ofNat_eq_natCast,Int.toNat_natCast] at this⊢;simp only[Sem.run_bind,this,Result.andThen_ok,Sem.run_pure]
    ·rename_i m hi;simp only[aQ] at h4;split at h4
     ·rename_i hc;simp only[aC,Option.some.injEq] at h4;subst h4;obtain⟨rfl,rfl,o3,o4,o5,o6,o7⟩:=hobl;rw[hS.cm] at o6 o7;simp only[cmStd,decide_eq_true_eq] at o6 o7;simp only[Int.ofNat_eq_natCast] at o7;obtain⟨kk,rfl⟩:∃kk,j=.i kk m:=by
       cases j with
       |lit kk q=>cases q<;>simp[eK] at hi|i kk q=>simp only[eK,Option.some.injEq,Sum.inr.injEq] at hi;subst hi;exact⟨kk,rfl⟩|_=>simp[eK] at hi
      have hsat:=bY hc hm.2.2;have hnn:=dG o3 (by omega) (by omega) hsat;refine⟨rfl,?_,hm.2.2⟩;have:=cX (P:=P) hu w hs b off kk m o6 (by simpa using o7) (cap:=cap);simp only[execOp,ho,e,ej,SV.den,gQ hMU];cases nn with
      |zero=>exact absurd rfl hnn|succ nn=>simp[slA,this]
     ·rename_i hc;simp only[aC,Option.some.injEq] at h4;subst h4;obtain⟨rfl,rfl,o6,o7⟩:=hobl;rw[hS.cm] at o6 o7;simp only[cmStd,decide_eq_true_eq] at o6 o7;simp only[Int.ofNat_eq_natCast] at o7;obtain⟨kk,rfl⟩:∃kk,j=.i kk m:=by
       cases j with
       |lit kk q=>cases q<;>simp[eK] at hi|i kk q=>simp only[eK,Option.some.injEq,Sum.inr.injEq] at hi;subst hi;exact⟨kk,rfl⟩|_=>simp[eK] at hi
      have hnn:=mr_nn hc hm.2.2 (by omega);refine⟨rfl,?_,hm.2.2⟩;have:=cX (P:=P) hu w hs b off kk m o6 (by simpa using o7) (cap:=cap);simp only[execOp,ho,e,ej,SV.den,gQ hMU];cases nn with
      |zero=>exact absurd rfl hnn|succ nn=>simp[slA,this]
     ·rename_i hc;simp only[aC,Option.some.injEq] at h4;subst h4;obtain⟨rfl,rfl,o6,o7⟩:=hobl;rw[hS.cm] at o6 o7;simp only[cmStd,decide_eq_true_eq] at o6 o7;simp only[Int.ofNat_eq_natCast] at o7;obtain⟨kk,rfl⟩:∃kk,j=.i kk m:=by
       cases j with
       |lit kk q=>cases q<;>simp[eK] at hi|i kk q=>simp only[eK,Option.some.injEq,Sum.inr.injEq] at hi;subst hi;exact⟨kk,rfl⟩|_=>simp[eK] at hi
      have hnn:=mo_nn hc hm.2.2 (by omega);refine⟨rfl,?_,hm.2.2⟩;have:=cX (P:=P) hu w hs b off kk m o6 (by simpa using o7) (cap:=cap);simp only[execOp,ho,e,ej,SV.den,gQ hMU];cases nn with
      |zero=>exact absurd rfl hnn|succ nn=>simp[slA,this]
     ·simp at h4
    ·simp at h4
   ·simp at hd
  ·simp at hd
 |_=>exact elseC (by intros;simp)
def pN (s:TypeId) (x:Operand) (f:Nat):SM Pay (Delta Pay):=(ev x).bind fun v=>match v with
 |.el h b off j=>match TT s with
  |some ⟨_,_,_,.struct fs⟩=>match fs[f]? with
   |some (o,sz,_)=>match sz with
    |0=>.fail|_+1=>.ret {res:=.el h b off (j+o)}
   |none=>.fail
  |_=>.fail
 |_=>dZ TT s x f
theorem CZ (hS:Std P TT AR CM SE) (o:Oper) (s:TypeId) (x:Operand) (f:Nat) (ho:o.op=.fieldAddr s x f):bT P o fun _=>(pN TT s x f:SM Pay (Delta Pay)):=by
 intro σ F a w next Q hm hv hout hk
 obtain⟨d,hv0,hob⟩:=hv (fun _=>0);simp only[pN,aE,Option.bind_eq_some_iff] at hv0;obtain⟨v,h1,h2⟩:=hv0;have e:=aK hm h1;have elseC:(∀h b off j,v≠.el h b off j)→Oper.wp P o a w next Q∨(Oper.asks P o a w∧LetsOut Q):=by
  intro hn;have hval:(pN TT s x f:SM Pay (Delta Pay)).val σ=(dZ TT s x f:SM Pay (Delta Pay)).val σ:=by simp only[pN,aE,h1,Option.bind_some]
  simp only[hval] at hv hk;exact kB TT AR CM SE hS o s x f ho σ F a w next Q hm hv hout hk
 cases v with
 |el h b off j=>
  refine cT (f:=fun _=>pN TT s x f) hm hv hk ⟨fun _=>0,fun d hd hobl=>?_⟩;simp only[pN,aE,h1,Option.bind_some] at hd;split at hd
  ·rename_i et;have hk:=(hS.tt _ _ et).kind;split at hd
   ·rename_i hf;split at hd
    ·simp at hd
    ·simp only[aC,Option.some.injEq] at hd;subst hd;exact⟨rfl,by simp[execOp,ho,e,SV.den,jO hk hf,Nat.add_assoc],hm.2.2⟩
   ·simp at hd
  ·simp at hd
 |_=>exact elseC (by intros;simp)
def LW (NF:List FV→Nat→FV) (xs:List FV) (j:Nat):Nat→SM Pay (List SV)
 |0=>.ret []|n+1=>match NF xs j with
  |.sc v=>(LW NF xs (j+1) n).bind fun r=>.ret (M7 v::r)|_=>.fail
variable (NF:List FV→Nat→FV) (NI:List Int→Nat→Int)
def s8 (MU:Nat→Nat→Nat) (base:Nat) (t:TypeId) (x:Operand) (β:Nat→Nat):SM Pay (Delta Pay):=(ev x).bind fun v=>match v with
 |.el h b off j=>.rdC h fun c=>match c with
  |.prd (.sl _ nn' b' off' cap' f)=>match TT t with
   |some ⟨n,g,_,_⟩=>match g with
    |false=>match f with
     |.ul _ k m l=>.ret {res:=.i k (NI l j),obl:=b=b'∧off=off'∧CM .lt (Int.ofNat j) (Int.ofNat m)=true}|.sl _ sz m l=>match cP base β (NF l j) with
      |(sv,c)=>.rdC base fun c0=>match c0 with
       |.free=>.ret {res:=sv,ws:=[.cel base c],obl:=b=b'∧off=off'∧CM .lt (Int.ofNat j) (Int.ofNat (mR MU m sz))=true}|_=>.fail
     |_=>.fail
    |true=>match f with
     |.sl _ sz m l=>(LW NF l j n).bind fun vs=>.ret {res:=.agg vs,obl:=b=b'∧off=off'∧CM .le (Int.ofNat (j+n)) (Int.ofNat (mR MU m sz))=true}|_=>.fail
   |none=>.fail
  |.prd (.mo T nn' b' off' cap' ps)=>match TT t with
   |some ⟨1,false,_,.ptr _⟩=>.ret {res:=.v (iB (ps.getD j none)),obl:=b=b'∧off=off'∧CM .lt (Int.ofNat j) (Int.ofNat ps.length)=true}|_=>.fail
  |_=>.fail
 |_=>AE TT base t x β
theorem vV {w:World} {T:TypeId} {nn b off cap:Nat} {l:List (Option Nat)} {A:HProp} (hn:0<l.length) (h:sat w (star (lO T nn b off cap l) A)):∃N,nn≠0∧l.length≤cap∧off+cap≤N∧
  sat w (star (aG true b off (l.map iB)) (star (hdr b T N) (star (bU nn b off l.length cap) A))):=by
 cases nn with
 |zero=>have:=(aB.1 h).1.1;subst this;simp at hn|succ nn=>simp only[lO] at h;rw[aL] at h;obtain⟨N,h⟩:=h;simp only[aA] at h;obtain⟨⟨h2,h3⟩,h⟩:=aB.1 h;exact⟨N,by omega,h2,h3,aI h (by ac_rfl)⟩
theorem sX {w:World} {T:TypeId} {nn b off cap N:Nat} {l:List (Option Nat)} {A:HProp} (hn:nn≠0) (h2:l.length≤cap) (h3:off+cap≤N)
  (h:sat w (star (aG true b off (l.map iB)) (star (hdr b T N) (star (bU nn b off l.length cap) A)))):sat w (star (lO T nn b off cap l) A):=by
 cases nn with
 |zero=>exact absurd rfl hn|succ nn=>simp only[lO];rw[aL];refine⟨N,?_⟩;simp only[aA];exact aB.2 ⟨⟨h2,h3⟩,aI h (by ac_rfl)⟩
theorem BX {σ:St Pay} {F:HProp} {w:World} {h:Nat} {T:TypeId} {nn b off cap:Nat} {l:List (Option Nat)} (hc:σ.heap.getD h .nil=.prd (.mo T nn b off cap l)) (hs:sat w (star (big σ.heap) F)):
  sat w (star (lO T nn b off cap l) (star (big (σ.heap.set h .nil)) F)):=by
 rw[bV σ.heap h,hc,aA] at hs;exact hs
theorem hH {w:World} {nn b off cap:Nat} {f:FV} {vs:List Value} {A:HProp} (h:sat w (star (slR f.ty f.sz vs nn b off cap) A)) {j:Nat} {v:Value} (hj:vs[j]?=some v):w.cell? ⟨b,off+j,none⟩=some v:=by
 cases nn with
 |zero=>obtain⟨rfl,_⟩:=cF h;simp at hj
 |succ nn=>exact eW h j v hj
theorem tR {NF:List FV→Nat→FV} (hNF:NF=nth) {w:World} {l:List FV} {vs:List Value} {A:HProp} (h:sat w (star (FV.dens l vs) A)) {σ:St Pay}:∀(n j:Nat) {r:List SV},(LW NF l j n).val σ=some r→j+n≤l.length→r.length=n∧∀k v,(SV.dens r)[k]?=some v→vs[j+k]?=some v
 |0,j,r,hr,_=>by simp only[LW,aC,Option.some.injEq] at hr;subst hr;exact⟨rfl,fun k v hk=>by simp[SV.dens] at hk⟩
 |n+1,j,r,hr,hl=>by
  simp only[LW] at hr;split at hr
  ·rename_i v hn;rw[hNF] at hn;simp only[aE,Option.bind_eq_some_iff] at hr;obtain⟨r2,h2,h3⟩:=hr;simp only[aC,Option.some.injEq] at h3;subst h3;obtain⟨a1,a2⟩:=tR hNF h n (j+1) h2 (by omega);refine⟨by simp[a1],fun k u hk=>?_⟩;cases k with
   |zero=>simp only[SV.dens,List.getElem?_cons_zero,Option.some.injEq,pL] at hk;subst hk;have hg:=pB (l:=l) (j:=j) (by omega);rw[hn] at hg;obtain⟨x,hx,hs⟩:=mO h hg;simp only[FV.den] at hs;have:=(cF hs).1;subst this;simpa using hx
   |succ k=>simp only[SV.dens,List.getElem?_cons_succ] at hk;have:=a2 k u hk;rw[show j+(k+1)=j+1+k by omega];exact this
  ·simp at hr
theorem jK (hS:Std P TT AR CM SE) {a b:Nat} (h:CM .lt (Int.ofNat a) (Int.ofNat b)=true):a<b:=by rw[hS.cm] at h;simpa [cmStd] using h
theorem yD (hS:Std P TT AR CM SE) {a b:Nat} (h:CM .le (Int.ofNat a) (Int.ofNat b)=true):a≤b:=by rw[hS.cm] at h;simp only[cmStd,decide_eq_true_eq,Int.ofNat_eq_natCast] at h;omega
theorem FH (MU:Nat→Nat→Nat) (hMU:MU=fun a b=>a*b) (hNF:NF=nth) (hNI:NI=dI) (hS:Std P TT AR CM SE) (o:Oper) (base:Nat) (t:TypeId) (x:Operand) (ho:o.op=.load t x):bT P o (s8 TT CM NF NI MU base t x):=by
 intro σ F a w next Q hm hv hout hk
 obtain⟨d,hv0,hob⟩:=hv (fun _=>0);simp only[s8,aE,Option.bind_eq_some_iff] at hv0;obtain⟨v,h1,h2⟩:=hv0;have e:=aK hm h1;have elseC:(∀h b off j,v≠.el h b off j)→Oper.wp P o a w next Q∨(Oper.asks P o a w∧LetsOut Q):=by
  intro hn;have hval:∀β,(s8 TT CM NF NI MU base t x β).val σ=(AE TT base t x β).val σ:=by intro β;simp only[s8,aE,h1,Option.bind_some]
  simp only[hval] at hv hk;exact IY TT AR CM SE hS o base t x ho σ F a w next Q hm hv hout hk
 cases v with
 |el h b off j=>
  simp only[aQ] at h2;split at h2
  ·rename_i sp nn b' off' cap f hc;split at h2
   ·rename_i n g z k ht;have hT:=hS.tt _ _ ht;have hs0:=bY hc hm.2.2;split at h2
    ·split at h2
     ·rename_i T k m l;simp only[aC,Option.some.injEq] at h2;subst h2;obtain⟨rfl,rfl,o3⟩:=hob;have o3:=jK TT AR CM SE hS o3;refine cT hm hv hk ⟨fun _=>0,fun d hd hobl=>?_⟩;simp only[s8,aE,h1,Option.bind_some,aQ,hc,ht,aC,Option.some.injEq] at hd;subst hd;rw[cS rfl] at hs0;obtain⟨vs,hs0⟩:=hs0;have h3:=aI (B:=star ((FV.ul T k m l).elems vs) _) hs0 (aM _ _ _);obtain⟨rfl,hlm⟩:=cF h3;have hcell:=hH hs0 (j:=j) (v:=.int k (NI l j)) (by rw[List.getElem?_map,hNI,cO (by omega)];rfl);have:=cW hT rfl hcell;refine⟨rfl,?_,by simpa [puts] using hm.2.2⟩;simp only[execOp,ho,e,SV.den,Sem.run_bind,this,Result.andThen_ok,Sem.run_pure]
     ·rename_i T sz m l;have hj0:j<m*sz:=by
       simp only[aQ] at h2;split at h2
       ·simp only[aC,Option.some.injEq] at h2;subst h2;rw[←gQ hMU];exact jK TT AR CM SE hS hob.2.2
       ·simp at h2
      rw[cS rfl] at hs0;obtain⟨vs,hs0⟩:=hs0;have h3:=aI (B:=star ((FV.sl T sz m l).elems vs) _) hs0 (aM _ _ _);simp only[FV.elems,aA] at h3;have h4:=(aB.1 h3).2;have hvl:=(aB.1 h3).1;have hj:j<l.length:=by rw[gG h4,hvl];exact hj0
      obtain⟨y,hy,h5⟩:=mO h4 (pB hj);have hcell:=hH hs0 hy;have h6:sat w (star ((NF l j).den y) (star (big σ.heap) F)):=by rw[hNF];refine h5.mono (eD.star (eD.refl _) ?_);intro m i ⟨m₁,m₂,d,e,a,c⟩;have e1:=FV.persL _ _ _ _ a;subst e1;subst e;rw[cQ];obtain⟨m₁,m₂,d,e,a,c⟩:=c;have e1:=aU.slR _ _ _ _ _ _ _ _ _ a;subst e1;subst e;rw[cQ];exact c
      obtain⟨β,hx,hs4⟩:=lX base h6;refine cT hm hv hk ⟨β,fun d hd hobl=>?_⟩;simp only[s8,aE,h1,Option.bind_some,aQ,hc,ht] at hd;split at hd
      ·rename_i hfree;simp only[aC,Option.some.injEq] at hd;subst hd;obtain⟨rfl,rfl,o3⟩:=hobl;have:=cW hT rfl hcell;refine⟨rfl,?_,?_⟩
       ·simp only[execOp,ho,e,SV.den,Sem.run_bind,this,Result.andThen_ok,Sem.run_pure,hx]
       ·exact jZ hfree _ hs4
      ·simp at hd
     ·simp at h2
    ·split at h2
     ·rename_i T sz m l;simp only[aE,Option.bind_eq_some_iff] at h2;obtain⟨r,h7,h8⟩:=h2;simp only[aC,Option.some.injEq] at h8;subst h8;obtain⟨rfl,rfl,o3⟩:=hob;have o3:=yD TT AR CM SE hS o3;refine cT hm hv hk ⟨fun _=>0,fun d hd hobl=>?_⟩;simp only[s8,aE,h1,Option.bind_some,aQ,hc,ht,h7,aC,Option.some.injEq] at hd;subst hd;rw[cS rfl] at hs0;obtain⟨vs,hs0⟩:=hs0;have h3:=aI (B:=star ((FV.sl T sz m l).elems vs) _) hs0 (aM _ _ _);simp only[FV.elems,aA] at h3;have h4:=(aB.1 h3).2;have hvl:=(aB.1 h3).1;obtain⟨a1,a2⟩:=tR hNF h4 _ _ h7 (by rw[gG h4,hvl,←gQ hMU];exact o3);have:=iN hT rfl (w:=w) (b:=b) (off:=off+j) (cs:=SV.dens r) (by rw[bD,a1]) (fun k v hk=>by rw[Nat.add_assoc];exact hH hs0 (a2 k v hk));refine⟨rfl,?_,by simpa [puts] using hm.2.2⟩;simp only[execOp,ho,e,SV.den,Sem.run_bind,this,Result.andThen_ok,Sem.run_pure]
     ·simp at h2
   ·simp at h2
  ·rename_i T nn' b' off' cap' ps hc;split at h2
   ·rename_i z k ht;have hT:=hS.tt _ _ ht;simp only[aC,Option.some.injEq] at h2;subst h2;obtain⟨rfl,rfl,o3⟩:=hob;have o3:=jK TT AR CM SE hS o3;refine cT hm hv hk ⟨fun _=>0,fun d hd hobl=>?_⟩;simp only[s8,aE,h1,Option.bind_some,aQ,hc,ht,aC,Option.some.injEq] at hd;subst hd;obtain⟨N,hnn,_,_,hs⟩:=vV (by omega) (BX hc hm.2.2);have hcell:=(aX _ off hs j (iB (ps.getD j none)) (by rw[List.getElem?_map,List.getD_eq_getElem?_getD,List.getElem?_eq_getElem o3];rfl)).1;have hone:=cW hT (v:=iB (ps.getD j none)) (by cases ps.getD j none<;>rfl) hcell;refine⟨rfl,?_,by simpa [puts] using hm.2.2⟩;simp only[execOp,ho,e,SV.den,Sem.run_bind,hone,Result.andThen_ok,Sem.run_pure]
   ·simp at h2
  ·simp at h2
 |_=>exact elseC (by intros;simp)
end
abbrev nC:=List (TypeId×String×FuncId)
def nC.find:nC→TypeId→String→Option FuncId
 |[],_,_=>none|(t,n,f)::r,t',n'=>match Nat.beq t t' with
  |true=>match decEq n n' with
   |isTrue _=>some f|isFalse _=>nC.find r t' n'
  |false=>nC.find r t' n'
theorem nC.find_mem:∀{T:nC} {t:TypeId} {n:String} {f:FuncId},T.find t n=some f→(t,n,f)∈T
 |[],_,_,_,h=>by cases h
 |(t,n,f)::r,t',n',f',h=>by
  simp only[nC.find] at h;split at h
  ·rename_i hb;have e:=Nat.eq_of_beq_eq_true hb;split at h
   ·rename_i e2 _;cases h;subst e;subst e2;exact List.mem_cons_self ..
   ·exact List.mem_cons_of_mem _ (find_mem h)
  ·exact List.mem_cons_of_mem _ (find_mem h)
def mOk (P:Program) (x:TypeId×String×FuncId):Prop:=∃i m e,P.info? x.1=some i∧i.methods.find? (·.name==x.2.1)=some m∧m.path.toList=[]∧m.func=some (x.2.2,true)∧P.underlying x.1=some (.pointer e)
section
variable {P:Program}
variable (MT:nC) (rs:List (gV P Pay))
def tZ (base:Nat) (recv:Operand) (name:String) (args:List Operand) (β:Nat→Nat):SM Pay (Delta Pay):=(ev recv).bind fun v=>match v with
 |.ifc t x=>match MT.find t name with
  |some f=>(E1 args).bind fun as=>match cN f rs with
   |some r=>r.app (x::as) base β|none=>.fail
  |none=>.fail
 |_=>.fail
theorem DY (hM:∀x∈MT,mOk P x) (hfn:∀r:gV P Pay,r∈rs→∃fn,P.funcs[r.f]?=some fn∧fn.body.isSome=true∧fn.name≠ "runtime.NumGoroutine")
  (o:Oper) (base:Nat) (recv:Operand) (name:String) (args:Array Operand) (ts:Array TypeId) (ho:o.op=.call ⟨.invoke recv name,args,ts⟩):bT P o (tZ MT rs base recv name args.toList):=by
 intro σ F a w next Q hm hv hout hk
 obtain⟨d0,hv0,_⟩:=hv (fun _=>0);simp only[tZ,aE,Option.bind_eq_some_iff] at hv0;obtain⟨v,h1,h2⟩:=hv0;have e:=aK hm h1;split at h2
 ·rename_i t x;split at h2
  ·rename_i f hf;simp only[aE,Option.bind_eq_some_iff] at h2;obtain⟨as,h3,h4⟩:=h2;have e2:=gH hm h3;split at h4
   ·rename_i r hr;have hrf:=iJ hr;have hmem:r∈rs:=by
     have:∀(rs:List (gV P Pay)),cN f rs=some r→r∈rs:=by
      intro rs;induction rs with
      |nil=>intro h;cases h|cons s rs ih=>
       intro h;simp only[cN] at h;split at h
       ·cases h;exact List.mem_cons_self ..
       ·exact List.mem_cons_of_mem _ (ih h)
     exact this rs hr
    obtain⟨fn,hf1,hf2,hf3⟩:=hfn r hmem;rw[hrf] at hf1;have happ:∀β,(tZ MT rs base recv name args.toList β:SM Pay (Delta Pay)).val σ=(r.app (x::as) base β).val σ:=by intro β;simp only[tZ,aE,h1,Option.bind_some,hf,h3,hr]
    have hcall:=r.ok (x::as) base σ F w hm.2.2 (fun β=>by
     obtain⟨d,hd,ho⟩:=hv β
     rw[happ] at hd;exact⟨d,hd,ho⟩)
    left;unfold Oper.wp;have hargs:(args.map a.eval)=(SV.dens as).toArray:=by apply Array.ext';simp[e2]
    obtain⟨i,m,el,m1,m2,m3,m4,m5⟩:=hM _ (nC.find_mem hf);have hrun:(execOp a.eval o).run P w=.ok (.enter f (SV.dens (x::as)).toArray) w:=by
     obtain⟨body,hb⟩:=Option.isSome_iff_exists.1 hf2;have hf3':(fn.name== "runtime.NumGoroutine")=false:=by simpa using hf3
     have hmeth:∀n,(method (n+1) t x.den name).run P w=.ok (f,x.den) w:=by intro n;simp only at m1 m2 m3 m4 m5;simp only[method,typeInfo,Sem.run_bind,run_program,Result.andThen_ok,m1,Sem.run_pure,m2,m3,follow,m4];simp only[receiverAt,Sem.run_bind,run_underlying m5,Result.andThen_ok,Place.get,Sem.run_pure]
     simp only[execOp,ho,resolve,hargs,e,SV.den];have hdep:0<Made.depth:=by decide
     obtain⟨n,hn⟩:∃n,P.types.size+Made.depth=n+1:=⟨P.types.size+Made.depth-1,by omega⟩;have hm2:=hmeth n;have h0:∀v:Value,(#[v]++(SV.dens as).toArray)[0]?=some v:=by intro v;simp
     have hex:∀v:Value,(#[v]++(SV.dens as).toArray).extract 1 (#[v]++(SV.dens as).toArray).size=(SV.dens as).toArray:=by intro v;apply Array.ext';simp
     simp only[Sem.run_bind,Sem.run_pure,Result.andThen_ok,invoke,h0,hex,callMethod,run_program,hn,hm2,callFunc,hf1,hf3',Bool.false_eq_true,if_false,hb,Option.isNone_some];congr 2;apply Array.ext';simp[SV.dens]
    rw[hrun];simp only[Oper.upon];rw[hrf] at hcall;refine hcall.mono fun e w' hR=>?_;rcases hR with hF|⟨β,d,hd,hfact,rfl,hsat⟩
    ·exact hF.elim
    ·exact hk β d w' (by rw[happ];exact hd) hfact hsat
   ·simp at h4
  ·simp at h2
 ·simp at h2
end
def FV.sub (lo hi:Nat):FV→FV
 |.ul T k n l=>.ul T k (hi-lo) ((l.drop lo).take (hi-lo))|.sl T sz n l=>.sl T sz (hi-lo) ((l.drop (lo*sz)).take ((hi-lo)*sz))|f=>f
theorem rY:∀(k:Nat) (l:List FV) (vs:List Value),eD (FV.dens l vs) (FV.dens (l.drop k) (vs.drop k))
 |0,l,vs=>eD.refl _|k+1,[],[]=>eD.refl _|k+1,f::l,v::vs=>by intro m i h;simp only[FV.dens] at h;obtain⟨m₁,m₂,d,e,a,b⟩:=h;have:=FV.pers f v _ _ a;subst this;subst e;rw[cQ];exact rY k l vs _ _ b
 |k+1,[],v::vs=>by intro m i h;exact h.2.elim
 |k+1,f::l,[]=>by intro m i h;exact h.2.elim
theorem sH:∀(k:Nat) (l:List FV) (vs:List Value),eD (FV.dens l vs) (FV.dens (l.take k) (vs.take k))
 |0,l,vs=>by intro m i h;simp only[List.take_zero,FV.dens];exact FV.persL l vs _ _ h
 |k+1,[],[]=>eD.refl _|k+1,f::l,v::vs=>by simp only[FV.dens,List.take_succ_cons];exact eD.star (eD.refl _) (sH k l vs)
 |k+1,[],v::vs=>by intro m i h;exact h.2.elim
 |k+1,f::l,[]=>by intro m i h;exact h.2.elim
theorem AH {w:World} {f:FV} {vs:List Value} {lo hi:Nat} {A:HProp} (hf:f.isRow=true) (h1:lo≤hi) (h2:hi≤f.len) (h:sat w (star (f.elems vs) A)):
  sat w (star ((f.sub lo hi).elems ((vs.drop (lo*f.sz)).take ((hi-lo)*f.sz))) A):=by
 cases f with
 |ul T k n l=>
  obtain⟨⟨rfl,hl⟩,h'⟩:=aB.1 h;simp only[FV.sub,FV.elems,FV.sz,FV.len] at*;refine aZ ⟨?_,?_⟩ h'
  ·simp[List.map_take,List.map_drop]
  ·simp;omega
 |sl T sz n l=>simp only[FV.sub,FV.elems,FV.sz,FV.len,aA] at*;obtain⟨hl,h⟩:=aB.1 h;have h3:hi*sz≤n*sz:=Nat.mul_le_mul_right _ h2;have h4:(hi-lo)*sz=hi*sz-lo*sz:=Nat.sub_mul _ _ _;refine aZ ?_ (h.mono (eD.star (eD.trans (rY _ _ _) (sH _ _ _)) (eD.refl _)));simp only[List.length_take,List.length_drop];omega
 |_=>cases hf
theorem jA {b:Nat}:∀(k:Nat) (off:Nat) (vs:List Value),k≤vs.length→eD (aG false b off vs) (aG false b (off+k) (vs.drop k))
 |0,off,vs,_=>eD.refl _|k+1,off,[],h=>by simp at h
 |k+1,off,v::vs,h=>by intro m i hm;simp only[aG,Bool.false_eq_true,if_false] at hm;obtain⟨m₁,m₂,d,e,a,b⟩:=hm;have:=aU.ipts _ _ _ _ a;subst this;subst e;rw[cQ];have:=jA k (off+1) vs (by simpa using h) _ _ b;simpa [Nat.add_assoc,Nat.add_comm 1 k] using this
theorem iU {b:Nat}:∀(k:Nat) (off:Nat) (vs:List Value),eD (aG false b off vs) (aG false b off (vs.take k))
 |0,off,vs=>by intro m i h;simp only[List.take_zero,aG];exact aU.cells _ _ _ _ _ h
 |k+1,off,[]=>eD.refl _|k+1,off,v::vs=>by simp only[aG,List.take_succ_cons];exact eD.star (eD.refl _) (iU k (off+1) vs)
theorem KO {w:World} {T:TypeId} {sz nn b off cap n lo hi mx:Nat} {vs:List Value} {A:HProp} (hv:vs.length=n*sz) (h1:lo≤hi) (h2:hi≤n) (h3:hi≤mx) (h4:mx≤cap) (h:sat w (star (slR T sz vs nn b off cap) A)):
  sat w (star (slR T sz ((vs.drop (lo*sz)).take ((hi-lo)*sz)) nn b (if mx=lo then off else off+lo*sz) (mx-lo)) A):=by
 cases nn with
 |zero=>obtain⟨⟨rfl,rfl⟩,h'⟩:=aB.1 h;exact aZ ⟨by simp,by omega⟩ h'
 |succ nn=>
  simp only[slR,rowD] at h⊢;rw[aL] at h⊢;obtain⟨N,h⟩:=h;rw[aA,aB] at h;obtain⟨⟨hN,hl⟩,h⟩:=h;have a1:lo*sz≤hi*sz:=Nat.mul_le_mul_right _ h1;have a2:hi*sz≤n*sz:=Nat.mul_le_mul_right _ h2;have a3:hi*sz≤mx*sz:=Nat.mul_le_mul_right _ h3;have a4:mx*sz≤cap*sz:=Nat.mul_le_mul_right _ h4;have a5:(hi-lo)*sz=hi*sz-lo*sz:=Nat.sub_mul _ _ _;have a6:(mx-lo)*sz=mx*sz-lo*sz:=Nat.sub_mul _ _ _;refine⟨N,?_⟩;rw[aA,aB];refine⟨⟨?_,?_⟩,?_⟩
  ·split<;>omega
  ·simp only[List.length_take,List.length_drop];omega
  ·simp only[aA] at h⊢;refine h.mono (eD.star (eD.refl _) (eD.star ?_ (eD.refl _)));split
   ·rename_i e;have:hi-lo=0:=by omega
    rw[this];simp only[Nat.zero_mul,List.take_zero];intro m i hm;exact aU.cells _ _ _ _ _ hm
   ·exact eD.trans (jA _ _ _ (by omega)) (iU _ _ _)
section
variable {P:Program}
variable (TT:TypeId→Option TyI) (CM:mU→Int→Int→Bool)
def E0 (x:Option Operand) (d:Nat):SM Pay (Nat×Prop×Option (IntKind×Int)):=match x with
 |none=>.ret (d,True,none)|some x=>(ev x).bind fun v=>match v with
  |.lit k n=>match n with
   |.ofNat m=>.ret (m,True,some (k,.ofNat m))|_=>.fail
  |.i k n=>.ret (n.toNat,CM .le 0 n=true,some (k,n))|_=>.fail
def vP (base:Nat) (t:TypeId) (x:Operand) (lo hi mx:Option Operand) (β:Nat→Nat):SM Pay (Delta Pay):=(ev x).bind fun v=>match v with
 |.sl h nn b off n cap=>match TT t with
  |some ⟨_,_,_,.slice e⟩=>.rdC h fun c=>match c with
   |.prd (.sl _ nn' b' off' cap' f)=>match TT e with
    |some ⟨sz,_,_,_⟩=>(E0 CM lo 0).bind fun l=>(E0 CM hi n).bind fun hh=>(E0 CM mx cap).bind fun m=>.rdC base fun c0=>match c0 with
     |.free=>match f.isRow&&Nat.beq f.sz sz&&Nat.blt 0 sz with
      |true=>.ret {res:=.sl base nn b (β 0) (hh.1-l.1) (m.1-l.1),ws:=[.cel base (.prd (.sl false nn b (β 0) (m.1-l.1) (f.sub l.1 hh.1)))],obl:=(nn=nn'∧b=b'∧off=off'∧cap=cap'∧n=f.len)∧(l.2.1∧hh.2.1∧m.2.1)∧CM .le (Int.ofNat l.1) (Int.ofNat hh.1)=true∧CM .le (Int.ofNat hh.1) (Int.ofNat n)=true∧(match mx with|none=>True|some _=>m.1=hh.1∧hi.isSome=true)}|false=>.fail
     |_=>.fail
    |none=>.fail
   |_=>.fail
  |_=>.fail
 |_=>.fail
def tO (d:Option (IntKind×Int)):Option Value:=d.map fun x=>.int x.1 x.2
theorem qL {AR:lT→IntKind→Int→Int→Int} {SE:ByteArray→ByteArray→Bool} (hS:Std P TT AR CM SE) {σ:St Pay} {F:HProp} {a:Act} {w:World} (hm:cD σ F a w) {x:Option Operand} {d:Nat} {r:Nat×Prop×Option (IntKind×Int)}
  (h:(E0 CM x d).val σ=some r) (ho:r.2.1):x.map a.eval=tO r.2.2∧(match r.2.2 with|none=>x=none∧r.1=d|some (_,i)=>i=(r.1:Int)∧x.isSome=true):=by
 cases x with
 |none=>simp only[E0,aC,Option.some.injEq] at h;subst h;exact⟨rfl,rfl,rfl⟩|some x=>
  simp only[E0,aE,Option.bind_eq_some_iff] at h;obtain⟨v,h1,h2⟩:=h;have e:=aK hm h1;split at h2
  ·split at h2
   ·simp only[aC,Option.some.injEq] at h2;subst h2;exact⟨by simp[tO,e,SV.den],by simp⟩
   ·simp at h2
  ·rename_i k n;simp only[aC,Option.some.injEq] at h2;subst h2;simp only at ho;rw[hS.cm] at ho;simp only[cmStd,decide_eq_true_eq] at ho;exact⟨by simp[tO,e,SV.den],by simp;omega⟩
  ·simp at h2
theorem D8 {AR:lT→IntKind→Int→Int→Int} {SE:ByteArray→ByteArray→Bool} (hS:Std P TT AR CM SE) (o:Oper) (base:Nat) (t:TypeId) (x:Operand) (lo hi mx:Option Operand) (ho:o.op=.slice t x lo hi mx):bT P o (vP TT CM base t x lo hi mx):=by
 intro σ F a w next Q hm hv hout hk
 obtain⟨d0,hv0,hob0⟩:=hv (fun _=>0);simp only[vP,aE,Option.bind_eq_some_iff] at hv0;obtain⟨v,h1,h2⟩:=hv0;have e:=aK hm h1;split at h2
 ·rename_i h nn b off n cap;split at h2
  ·rename_i n1 g1 z1 el ht;have hu:=(aS (hS.tt _ _ ht).kind).2.1 _ rfl;simp only[aQ] at h2;split at h2
   ·rename_i sp nn' b' off' cap' f hc;split at h2
    ·rename_i sz g2 z2 k2 he;have hT:=hS.tt _ _ he;have hs:=hT.run_sizeOf w;simp only at hs;simp only[aE,Option.bind_eq_some_iff] at h2;obtain⟨l,h3,hh,h4,m,h5,h6⟩:=h2;simp only[aQ] at h6;split at h6
     ·rename_i hfree;split at h6
      ·rename_i hb;simp only[Bool.and_eq_true] at hb;have hsz:=Nat.eq_of_beq_eq_true hb.1.2;have hz0:0<sz:=by have:=Nat.le_of_ble_eq_true hb.2;exact this
       simp only[aC,Option.some.injEq] at h6;subst h6;obtain⟨⟨rfl,rfl,rfl,rfl,rfl⟩,⟨o1,o2,o3⟩,o4,o5,o6⟩:=hob0;rw[hS.cm] at o4 o5;simp only[cmStd,decide_eq_true_eq,Int.ofNat_eq_natCast] at o4 o5;obtain⟨e1,f1⟩:=qL TT CM hS hm h3 o1;obtain⟨e2,f2⟩:=qL TT CM hS hm h4 o2;obtain⟨e3,f3⟩:=qL TT CM hS hm h5 o3;have hrow:=bY hc hm.2.2;rw[cS hb.1.1] at hrow;obtain⟨vs,hrow⟩:=hrow;have hel:=aI (B:=star (f.elems vs) (star (slR f.ty f.sz vs nn b off cap) (star (big σ.heap) F))) hrow (by ac_rfl);have hvl:=kM hel;have hnc:f.len≤cap:=by
        cases hnn:nn with
        |zero=>
         rw[hnn] at hrow;obtain⟨rfl,rfl⟩:=cF hrow;rw[hsz] at hvl;cases hfl:f.len with
         |zero=>exact Nat.le_refl _|succ q=>rw[hfl] at hvl;simp[Nat.succ_mul] at hvl;omega
        |succ q=>rw[hnn] at hrow;simp only[slR,rowD] at hrow;rw[aL] at hrow;obtain⟨N,hrow⟩:=hrow;rw[aA,aB] at hrow;have:=hrow.1.2;rw[hvl,hsz] at this;exact Nat.le_of_mul_le_mul_right this hz0
       have hhm:hh.1≤m.1∧m.1≤cap:=by
        cases mx with
        |none=>simp only[E0,aC,Option.some.injEq] at h5;subst h5;exact⟨by simp only;omega,Nat.le_refl _⟩|some q=>simp only at o6;have:=o6.1;omega
       have hsub:=KO (lo:=l.1) (hi:=hh.1) (mx:=m.1) hvl (by omega) (by omega) hhm.1 hhm.2 hrow;have hel2:=aI (B:=star (f.elems vs) (star (slR f.ty f.sz ((vs.drop (l.1*f.sz)).take ((hh.1-l.1)*f.sz)) nn b (if m.1=l.1 then off else off+l.1*f.sz) (m.1-l.1)) (star (big σ.heap) F))) hsub (by ac_rfl);have hel3:=AH hb.1.1 (lo:=l.1) (hi:=hh.1) (by omega) (by omega) hel2;have hbs:(Instr.sliceBounds true f.len cap (lo.map a.eval) (hi.map a.eval) (mx.map a.eval)).run P w=.ok (l.1,hh.1,m.1) w:=by
        have key:∀(k:IntKind) (i y:Nat) (code:BoundsCode),i≤y→(Instr.sliceBound (.int k (i:Int)) y code).run P w=.ok i w:=by intro k i y code hi;have:=run_sliceBound (P:=P) w k (i:Int) y code (by omega) (by omega);simpa using this
        rw[e1,e2,e3];obtain⟨l1,l2,l3⟩:=l;obtain⟨c1,c2,c3⟩:=hh;obtain⟨m1,m2,m3⟩:=m;simp only at f1 f2 f3 o4 o5 o6 hhm;cases l3 with
        |none=>
         obtain⟨_,f1⟩:=f1;subst f1;cases c3 with
         |none=>
          obtain⟨f2,f2'⟩:=f2;cases m3 with
          |none=>obtain⟨_,f3⟩:=f3;subst f2';subst f3;simp only[tO,Option.map_none,Instr.sliceBounds,Sem.run_bind,Sem.run_pure,Result.andThen_ok]
          |some mm=>
           obtain⟨mk,mi⟩:=mm;obtain⟨_,hsome⟩:=f3;cases mx with
           |none=>cases hsome|some q=>subst f2;simp at o6
         |some cc=>
          obtain⟨ck,ci⟩:=cc;obtain⟨f2,_⟩:=f2;subst f2;cases m3 with
          |none=>obtain⟨_,f3⟩:=f3;subst f3;simp only[tO,Option.map_none,Option.map_some,Instr.sliceBounds,Sem.run_bind,Sem.run_pure,Result.andThen_ok,key _ _ _ _ hhm.1]
          |some mm=>obtain⟨mk,mi⟩:=mm;obtain⟨f3,_⟩:=f3;subst f3;simp only[tO,Option.map_none,Option.map_some,Instr.sliceBounds,Sem.run_bind,Sem.run_pure,Result.andThen_ok,key _ _ _ _ hhm.1,key _ _ _ _ hhm.2]
        |some ll=>
         obtain⟨lk,li⟩:=ll;obtain⟨f1,_⟩:=f1;subst f1;cases c3 with
         |none=>
          obtain⟨f2,f2'⟩:=f2;cases m3 with
          |none=>obtain⟨_,f3⟩:=f3;subst f2';subst f3;simp only[tO,Option.map_none,Option.map_some,Instr.sliceBounds,Sem.run_bind,Sem.run_pure,Result.andThen_ok,key lk l1 f.len _ (by omega)]
          |some mm=>
           obtain⟨mk,mi⟩:=mm;obtain⟨_,hsome⟩:=f3;cases mx with
           |none=>cases hsome|some q=>subst f2;simp at o6
         |some cc=>
          obtain⟨ck,ci⟩:=cc;obtain⟨f2,_⟩:=f2;subst f2;cases m3 with
          |none=>obtain⟨_,f3⟩:=f3;subst f3;simp only[tO,Option.map_none,Option.map_some,Instr.sliceBounds,Sem.run_bind,Sem.run_pure,Result.andThen_ok,key _ _ _ _ hhm.1,key lk l1 c1 _ (by omega)]
          |some mm=>obtain⟨mk,mi⟩:=mm;obtain⟨f3,_⟩:=f3;subst f3;simp only[tO,Option.map_none,Option.map_some,Instr.sliceBounds,Sem.run_bind,Sem.run_pure,Result.andThen_ok,key _ _ _ _ hhm.1,key _ _ _ _ hhm.2,key lk l1 c1 _ (by omega)]
       refine cT hm hv hk ⟨fun _=>(if m.1=l.1 then off else off+l.1*f.sz),fun d hd hobl=>?_⟩;simp only[vP,aE,h1,Option.bind_some,ht,aQ,hc,he,h3,h4,h5,hfree,hb,Bool.and_self,aC,Option.some.injEq] at hd;subst hd;refine⟨rfl,?_,?_⟩
       ·have hA:∀A:Option Addr,A=slA nn b off→(if m.1=l.1 then A else A.map (·.add (l.1*sz)))=slA nn b (if m.1=l.1 then off else off+l.1*f.sz):=by
         intro A hA;subst hA;rw[hsz];split
         ·rfl
         ·cases nn with
          |zero=>rfl|succ q=>simp[slA,gA]
        simp only[execOp,ho,e,SV.den,Instr.sliceAt,Instr.slice,Sem.run_bind,run_underlying hu,Result.andThen_ok,hbs,hs,Sem.run_pure,hA _ rfl]
       ·simp only[puts,W.put];rw[dW _ _ _ (iM hfree)];have hb2:=bV σ.heap base;rw[hfree] at hb2;simp only[Cel.den,PayDen.den,eM,aO,aH,aA] at hb2⊢;rw[←hb2,cS (by cases f<;>first|exact hb.1.1|rfl)];have t1:(f.sub l.1 hh.1).ty=f.ty:=by cases f<;>rfl
        have t2:(f.sub l.1 hh.1).sz=f.sz:=by cases f<;>rfl
        rw[t1,t2];exact⟨_,aI hel3 (by ac_rfl)⟩
      ·simp at h6
     ·simp at h6
    ·simp at h2
   ·simp at h2
  ·simp at h2
 ·simp at h2
def FV.subV (NA:iC) (lo hi:Nat):FV→FV
 |.ul T k n l=>.ul T k (NA.ns hi lo) (NA.di l lo hi)|.sl T sz n l=>.sl T sz (NA.ns hi lo) (NA.df l lo hi sz)|f=>f
theorem CB (lo hi:Nat) (f:FV):f.subV cC lo hi=f.sub lo hi:=by cases f<;>rfl
def lF (NA:iC) (base:Nat) (t:TypeId) (x:Operand) (lo hi mx:Option Operand) (β:Nat→Nat):SM Pay (Delta Pay):=(ev x).bind fun v=>match v with
 |.sl h nn b off n cap=>match TT t with
  |some ⟨_,_,_,.slice e⟩=>.rdC h fun c=>match c with
   |.prd (.sl _ nn' b' off' cap' f)=>match TT e with
    |some ⟨sz,_,_,_⟩=>(E0 CM lo 0).bind fun l=>(E0 CM hi n).bind fun hh=>(E0 CM mx cap).bind fun m=>.rdC base fun c0=>match c0 with
     |.free=>match f.isRow&&Nat.beq f.sz sz&&Nat.blt 0 sz with
      |true=>.ret {res:=.sl base nn b (β 0) (NA.ns hh.1 l.1) (NA.ns m.1 l.1),ws:=[.cel base (.prd (.sl false nn b (β 0) (NA.ns m.1 l.1) (f.subV NA l.1 hh.1)))],obl:=(nn=nn'∧b=b'∧off=off'∧cap=cap'∧n=f.len)∧(l.2.1∧hh.2.1∧m.2.1)∧CM .le (Int.ofNat l.1) (Int.ofNat hh.1)=true∧CM .le (Int.ofNat hh.1) (Int.ofNat n)=true∧(match mx with|none=>True|some _=>m.1=hh.1∧hi.isSome=true)}|false=>.fail
     |_=>.fail
    |none=>.fail
   |_=>.fail
  |_=>.fail
 |_=>.fail
theorem rZ (NA:iC) (hNA:NA=cC) {AR:lT→IntKind→Int→Int→Int} {SE:ByteArray→ByteArray→Bool} (hS:Std P TT AR CM SE) (o:Oper) (base:Nat) (t:TypeId) (x:Operand) (lo hi mx:Option Operand) (ho:o.op=.slice t x lo hi mx):
  bT P o (lF TT CM NA base t x lo hi mx:(Nat→Nat)→SM Pay (Delta Pay)):=by
 subst hNA;have:(lF TT CM cC base t x lo hi mx:(Nat→Nat)→SM Pay (Delta Pay))=vP TT CM base t x lo hi mx:=by funext β;simp only[lF,vP,CB];rfl
 rw[this];exact D8 TT CM hS o base t x lo hi mx ho
end
end Go.Sx
namespace Go.Sx
open Go Go.Lib
theorem wB (w:World) (e:TypeId) (s:ByteArray):(bytesWorld w e s).heap=w.heap.push (.cells (bytesCells w e s) e ((bytesCells w e s).size,(bytesCells w e s).size+1)):=by
 apply Array.ext
 ·simp[bytesWorld_size]
 ·intro i h1 h2;have hs:=bytesWorld_size w e s
  by_cases h:i<w.heap.size
  ·have:=bytesWorld_at_old w e s i h;rw[Array.getElem?_eq_getElem h1,Array.getElem?_eq_getElem h] at this;simp only[Option.some.injEq] at this;rw[this,Array.getElem_push_lt h]
  ·have hi:i=w.heap.size:=by omega
   subst hi;have:=bytesWorld_at_new w e s;rw[Array.getElem?_eq_getElem h1] at this;simp only[Option.some.injEq] at this;rw[this];simp
theorem wM {w:World} {A:HProp} (vs:List Value) (T:TypeId) (h:sat w A):
  sat {w with heap:=w.heap.push (.cells vs.toArray T (vs.length,vs.length+1))} (star (star (hdr w.heap.size T vs.length) (aG false w.heap.size 0 vs)) A):=by
 have h1:=kE (o:=.cells vs.toArray T (vs.length,vs.length+1)) h;have hb:(w.heap.push (.cells vs.toArray T (vs.length,vs.length+1)))[w.heap.size]?=some (.cells vs.toArray T (vs.length,vs.length+1)):=by simp
 have h2:=iL false A vs 0 _ h1 (fun _ _ _=>trivial) (fun j hj=>by
  simp only[has,World.cell?,World.frozen?,hb]
  simp[hj];omega)
 have h3:=h2.ipts none (.hdr 0 0) ⟨trivial,fun _ e=>by cases e⟩ ⟨_,_,_,hb⟩;rw[aA];exact h3.sat
structure TF where
 sz:ByteArray→Nat
 l:ByteArray→List UInt8
 t:Option (List UInt8)→ByteArray
 o:ByteArray→Option (List UInt8)
 ap:{α β:Type}→(α→β)→α→β
def tfStd:TF:=⟨fun s=>s.size,fun s=>s.data.toList,fun|some l=>⟨l.toArray⟩|none=>.empty,fun s=>match Nat.beq s.size 0 with
 |true=>none
 |false=>some s.data.toList,fun f x=>f x⟩
inductive IsAp {α β:Type} (f:α→β) (x:α) (y:β):Prop where
 |mk (h:f x=y)
theorem IsAp.self {TX:TF} (h:TX=tfStd) {α β:Type} (f:α→β) (x:α):IsAp f x (TX.ap f x):=by subst h;exact⟨rfl⟩
inductive jX (s:ByteArray) (n:Nat) (o:Option (List UInt8)):Prop where
 |mk (h1:tfStd.sz s=n) (h2:tfStd.o s=o)
theorem jX.self {TX:TF} (h:TX=tfStd) (s:ByteArray):jX s (TX.sz s) (TX.o s):=by subst h;exact⟨rfl,rfl⟩
section
variable {P:Program}
variable (TT:TypeId→Option TyI) (AR:lT→IntKind→Int→Int→Int) (TX:TF)
def gR (base:Nat) (src dst:TypeId) (x:Operand) (β:Nat→Nat):SM Pay (Delta Pay):=match TT src,TT dst with
 |some ⟨_,_,_,.str⟩,some ⟨_,_,_,.slice e⟩=>match TT e with
  |some ⟨_,_,_,.int .u8⟩=>(ev x).bind fun v=>match v with
   |.v (.string s)=>.rdC base fun c=>match c with
    |.free=>.ret {res:=.sl base 1 (β 0) 0 (TX.sz s) (β 1),ws:=[.cel base (.prd (.sl false 1 (β 0) 0 (β 1) (.bys e (TX.sz s) (some (TX.l s)))))]}|_=>.fail
   |_=>.fail
  |_=>.fail
 |some ⟨_,_,_,.slice e⟩,some ⟨_,_,_,.str⟩=>match TT e with
  |some ⟨_,_,_,.int .u8⟩=>(ev x).bind fun v=>match v with
   |.sl h nn b off n cap=>.rdC h fun c=>match c with
    |.prd (.sl _ nn' b' off' cap' (.bys _ n' o))=>.ret {res:=.v (.string (TX.t o)),obl:=nn=nn'∧b=b'∧off=off'∧cap=cap'∧n=n'}|_=>.fail
   |_=>.fail
  |_=>.fail
 |_,_=>fS TT AR src dst x
theorem wL {CM:mU→Int→Int→Bool} {SE:ByteArray→ByteArray→Bool} (hS:Std P TT AR CM SE) (hTX:TX=tfStd) (o:Oper) (base:Nat) (src dst:TypeId) (x:Operand) (ho:o.op=.convert src dst x):bT P o (gR TT AR TX base src dst x):=by
 subst hTX;have hel:bT P o fun _=>(fS TT AR src dst x:SM Pay (Delta Pay)):=by
  cases ht:TT src with
  |none=>simp only[fS,ht];exact bT.fail o|some i=>simp only[fS,ht];exact sO TT AR CM SE hS o src dst x ho ⟨i,ht⟩
 intro σ F a w next Q hm hv hout hk
 obtain⟨d0,hv0,hob0⟩:=hv (fun _=>0);unfold gR at hv0;split at hv0
 ·rename_i n1 g1 z1 n2 g2 z2 e hs hd;have us:=(aS (hS.tt _ _ hs).kind).2.2.2.2.2.2.1 rfl;have ud:=(aS (hS.tt _ _ hd).kind).2.1 _ rfl;split at hv0
  ·rename_i n3 g3 z3 he;have ue:P.underlying e=some (.int .u8):=by
    have:=(hS.tt _ _ he).kind;unfold kindOf at this;split at this<;>simp_all
   simp only[aE,Option.bind_eq_some_iff] at hv0;obtain⟨v,h1,h2⟩:=hv0;have ev1:=aK hm h1;split at h2
   ·rename_i s;simp only[aQ] at h2;split at h2
    ·rename_i hfree;have hrun:=Go.Lib.run_convert_string_bytes (P:=P) w src dst e s us ud ue;left;unfold Oper.wp;have hex:(execOp a.eval o).run P w=.ok (.value (.slice (some ⟨w.heap.size,0,none⟩) s.size (grownCap w s.size 0 e))) (bytesWorld w e s):=by
      simp only[execOp,ho,ev1,SV.den,Sem.run_bind,hrun,Result.andThen_ok,Sem.run_pure]
     rw[hex];have hs1:=wM (bytesCells w e s).toList e hm.2.2;have hs2:sat (bytesWorld w e s) _:=eU (w:={w with heap:=w.heap.push (.cells (bytesCells w e s).toList.toArray e ((bytesCells w e s).toList.length,(bytesCells w e s).toList.length+1))}) (by rw[wB];simp) hs1 (by unfold bytesWorld World.freeze;rw[if_neg (by decide)];rfl) (by unfold bytesWorld World.freeze;rw[if_neg (by decide)];rfl) (by unfold bytesWorld World.freeze;rw[if_neg (by decide)];rfl);refine hk (fun|0=>w.heap.size|_=>grownCap w s.size 0 e) {res:=.sl base 1 w.heap.size 0 (tfStd.sz s) (grownCap w s.size 0 e),ws:=[.cel base (.prd (.sl false 1 w.heap.size 0 (grownCap w s.size 0 e) (.bys e (tfStd.sz s) (some (tfStd.l s)))))]} _ ?_ trivial ?_
     ·simp only[gR,hs,hd,he,aE,h1,Option.bind_some,aQ,hfree,aC]
     ·refine jZ hfree _ ?_;simp only[Cel.den,PayDen.den,FV.row,eM,aO,aA,tfStd];refine aZ ⟨by simp,by rw[Array.length_toList];rfl⟩ ?_;have hcs:(bytesCells w e s).toList=AQ s.data.toList++List.replicate (grownCap w s.size 0 e-s.size) (.int .u8 0):=by
       simp[bytesCells,AQ]
      have hlen:s.data.toList.length=s.size:=by rw[Array.length_toList];rfl
      have hg:=grownCap_ge w s.size 0 e;rw[hcs,bJ,aA,aA] at hs2;simp only[rowD];rw[aL];refine⟨(AQ s.data.toList++List.replicate (grownCap w s.size 0 e-s.size) (Value.int .u8 0)).length,?_⟩;rw[aA,aB];refine⟨⟨by simp[AQ,hlen];omega,by simp[AQ,hlen];omega⟩,?_⟩;rw[aA];refine hs2.mono (eD.star (eD.refl _) (eD.star (eD.refl _) ?_));intro m i hmi;obtain⟨m₁,m₂,d,e2,a1,b1⟩:=hmi;have:=aU.cells _ _ _ _ _ a1;subst this;subst e2;rw[cQ];exact b1
    ·simp at h2
   ·simp at h2
  ·simp at hv0
 ·rename_i n1 g1 z1 e n2 g2 z2 hs hd;have us:=(aS (hS.tt _ _ hs).kind).2.1 _ rfl;have ud:=(aS (hS.tt _ _ hd).kind).2.2.2.2.2.2.1 rfl;split at hv0
  ·rename_i n3 g3 z3 he;have ue:P.underlying e=some (.int .u8):=by
    have:=(hS.tt _ _ he).kind;unfold kindOf at this;split at this<;>simp_all
   simp only[aE,Option.bind_eq_some_iff] at hv0;obtain⟨v,h1,h2⟩:=hv0;have ev1:=aK hm h1;split at h2
   ·rename_i h nn b off n cap;simp only[aQ] at h2;split at h2
    ·rename_i sp nn' b' off' cap' T n' oo hc;simp only[aC,Option.some.injEq] at h2;subst h2;obtain⟨rfl,rfl,rfl,rfl,rfl⟩:=hob0;refine cT hm hv hk ⟨fun _=>0,fun d hd1 hobl=>?_⟩;simp only[gR,hs,hd,he,aE,h1,Option.bind_some,aQ,hc,aC,Option.some.injEq] at hd1;subst hd1;refine⟨rfl,?_,by simpa [puts] using hm.2.2⟩;have hrow:=bY hc hm.2.2;cases oo with
     |none=>simp only[FV.row] at hrow;obtain⟨⟨rfl,rfl⟩,rfl⟩:=cF hrow;have hrun:=run_convert_bytes_string (P:=P) w src dst e none 0 0 us ue ud;simp only[execOp,ho,ev1,SV.den,slA,FV.len,Sem.run_bind,hrun,Conv.bytesToString,Result.andThen_ok,Sem.run_pure,tfStd]
     |some l=>
      simp only[FV.row,aA,aB] at hrow;obtain⟨⟨hnn,rfl⟩,hrow⟩:=hrow;have hcells:=eW hrow
      have hrun:=run_convert_bytes_back (P:=P) w src dst e ⟨b,off,none⟩ cap l us ue ud (fun j hj=>by
       rw[Addr.add_lit]
       exact hcells j _ (by simp[AQ,List.getElem?_eq_getElem hj]))
      cases nn with
      |zero=>exact absurd rfl hnn|succ q=>simp only[execOp,ho,ev1,SV.den,slA,FV.len,Sem.run_bind,hrun,Result.andThen_ok,Sem.run_pure,tfStd]
    ·simp at h2
   ·simp at h2
  ·simp at hv0
 ·rename_i hn1 hn2;have hval:∀β,(gR TT AR tfStd base src dst x β:SM Pay (Delta Pay))=fS TT AR src dst x:=by
   intro β;unfold gR;split
   ·rename_i h1 h2;exact absurd h2 (by intro h2;exact hn1 _ _ _ _ _ _ _ h1 h2)
   ·rename_i h1 h2;exact absurd h2 (by intro h2;exact hn2 _ _ _ _ _ _ _ h1 h2)
   ·rfl
  simp only[hval] at hv hk;exact hel σ F a w next Q hm hv hout hk
end
section
variable {P:Program}
variable (TT:TypeId→Option TyI) (AR:lT→IntKind→Int→Int→Int) (TX:TF) (CM:mU→Int→Int→Bool) (NA:iC)
def cvC (src dst:TypeId):Bool:=match TT src with
 |some ⟨_,_,_,.slice e⟩=>match TT e with
  |some ⟨_,_,_,.int .u8⟩=>Nat.beq src dst|_=>false
 |_=>false
def KY (x:Operand):SM Pay (Delta Pay):=.fail
def oY (base:Nat) (src dst:TypeId) (x:Operand) (β:Nat→Nat):SM Pay (Delta Pay):=match cvC TT src dst with
 |true=>KY x|false=>gR TT AR TX base src dst x β
theorem wI {SE:ByteArray→ByteArray→Bool} (hS:Std P TT AR CM SE) (hTX:TX=tfStd) (o:Oper) (base:Nat) (src dst:TypeId) (x:Operand) (ho:o.op=.convert src dst x):bT P o (oY TT AR TX base src dst x):=by
 unfold oY;cases hc:cvC TT src dst with
 |false=>exact wL TT AR TX hS hTX o base src dst x ho|true=>
  intro σ F a w next Q hm hv hout hk
  obtain⟨d0,hv0,hob0⟩:=hv (fun _=>0);simp[KY] at hv0
def saC (t:TypeId) (lo hi mx:Option Operand):Bool:=match lo,hi,mx with
 |none,none,none=>match TT t with
  |some ⟨_,_,_,.array _ _⟩=>true|_=>false
 |_,_,_=>false
def LQ (t:TypeId) (x:Operand):SM Pay (Delta Pay):=(ev x).bind fun v=>match v with
 |.ptr h b 0=>match TT t with
  |some ⟨_,_,_,.array n e⟩=>match TT e with
   |some _=>.ret {res:=.hv h (.slice (some ⟨b,0,none⟩) n n)}|none=>.fail
  |_=>.fail
 |_=>.fail
def s0C (lo hi mx:Option Operand):Bool:=match lo,hi,mx with
 |none,some (.const (.int _ 0)),none=>true|_,_,_=>false
def AZ (m:SM Pay (Delta Pay)) (t:TypeId) (x:Operand):SM Pay (Delta Pay):=(ev x).bind fun v=>match v with
 |.sl h nn b off n cap=>.rdC h fun c=>match c with
  |.prd (.mo T nn' b' off' cap' ps)=>match TT t with
   |some ⟨_,_,_,.slice el⟩=>match TT el with
    |some _=>.ret {res:=.sl h nn b off 0 cap,ws:=[.cel h (.prd (.mo T nn' b' off' cap' []))],obl:=nn=nn'∧b=b'∧off=off'∧cap=cap'∧Nat.beq nn 0=false}|none=>.fail
   |_=>.fail
  |_=>m
 |_=>m
def xS (base:Nat) (t:TypeId) (x:Operand) (lo hi mx:Option Operand) (β:Nat→Nat):SM Pay (Delta Pay):=match saC TT t lo hi mx with
 |true=>LQ TT t x|false=>match s0C lo hi mx with
  |true=>AZ TT (lF TT CM NA base t x lo hi mx β) t x|false=>lF TT CM NA base t x lo hi mx β
theorem L7 {nn b off cap:Nat} {ps:List (Option Nat)} {w:World} {A:HProp} (h:sat w (star (aG true b off (ps.map iB)) (star (bU (nn+1) b off ps.length cap) A))):sat w (star (bU (nn+1) b off 0 cap) A):=by simp only[bU] at h⊢;rw[aM,aL] at h;obtain⟨vs,h⟩:=h;rw[aA] at h;obtain⟨h1,h⟩:=aB.1 h;rw[aL];refine⟨ps.map iB++vs,?_⟩;rw[aA];refine aB.2 ⟨by simp;omega,?_⟩;rw[bJ,List.length_map,Nat.add_zero,aA];exact aI h (by ac_rfl)
theorem zN (hNA:NA=cC) {SE:ByteArray→ByteArray→Bool} (hS:Std P TT AR CM SE) (o:Oper) (base:Nat) (t:TypeId) (x:Operand) (lo hi mx:Option Operand) (ho:o.op=.slice t x lo hi mx):bT P o (xS TT CM NA base t x lo hi mx):=by
 unfold xS;cases hc:saC TT t lo hi mx with
 |false=>
  simp only;cases hc0:s0C lo hi mx with
  |false=>exact rZ TT CM NA hNA hS o base t x lo hi mx ho|true=>
   intro σ F a w next Q hm hv hout hk
   obtain⟨d0,hv0,hob0⟩:=hv (fun _=>0);simp only[AZ,aE,Option.bind_eq_some_iff] at hv0;obtain⟨v,h1,h2⟩:=hv0;have e:=aK hm h1;have elseC:(∀β,(AZ TT (lF TT CM NA base t x lo hi mx β) t x).val σ=(lF TT CM NA base t x lo hi mx β).val σ)→Oper.wp P o a w next Q∨(Oper.asks P o a w∧LetsOut Q):=by intro hval;simp only[hval] at hv hk;exact rZ TT CM NA hNA hS o base t x lo hi mx ho σ F a w next Q hm hv hout hk
   split at h2
   ·rename_i h nn b off n cap;simp only[aQ] at h2;split at h2
    ·rename_i T nn' b' off' cap' ps hcell;split at h2
     ·rename_i n1 g1 z1 el ht;have hu:=(aS (hS.tt _ _ ht).kind).2.1 _ rfl;split at h2
      ·rename_i ie he;have hs1:=(hS.tt _ _ he).run_sizeOf w;simp only[aC,Option.some.injEq] at h2;subst h2;obtain⟨rfl,rfl,rfl,rfl,hnn⟩:=hob0;have hnn:=Nat.ne_of_beq_eq_false hnn;unfold s0C at hc0;split at hc0
       ·rename_i kk;obtain⟨nn,rfl⟩:∃k,nn=k+1:=⟨nn-1,by omega⟩;refine cT hm hv hk ⟨fun _=>0,fun d hd hobl=>?_⟩;simp only[AZ,aE,h1,Option.bind_some,aQ,hcell,ht,he,aC,Option.some.injEq] at hd;subst hd;refine⟨rfl,?_,?_⟩
        ·have key:∀(y:Nat) (code:BoundsCode),(Instr.sliceBound (.int kk 0) y code).run P w=.ok 0 w:=by
          intro y code;have:=run_sliceBound (P:=P) w kk 0 y code (by omega) (by omega);simpa using this
         have hbs:(Instr.sliceBounds true n cap none (some (.int kk 0)) none).run P w=.ok (0,0,cap) w:=by simp only[Instr.sliceBounds,Sem.run_bind,Sem.run_pure,Result.andThen_ok,key]
         have hA:∀A:Option Addr,A=slA (nn+1) b off→(if cap=0 then A else A.map (·.add (0*ie.n)))=slA (nn+1) b off:=by
          intro A hA;subst hA;split
          ·rfl
          ·simp[slA,gA]
         simp only[execOp,ho,e,SV.den,Option.map_none,Option.map_some,show a.eval (.const (.int kk 0))=.int kk 0 from rfl,Instr.sliceAt,Instr.slice,Sem.run_bind,run_underlying hu,Result.andThen_ok,hbs,hs1,Sem.run_pure,Nat.sub_zero,hA _ rfl]
        ·simp only[puts,W.put];have hs:=hm.2.2;rw[bV σ.heap h,hcell,aA] at hs;rw[dW _ _ _ (jG (by rw[hcell];simp)),aA];have hs:sat w (star (lO T (nn+1) b off cap ps) (star (big (σ.heap.set h .nil)) F)):=hs;show sat w (star (lO T (nn+1) b off cap []) _);simp only[lO] at hs⊢;rw[aL] at hs⊢;obtain⟨N,hs⟩:=hs;refine⟨N,?_⟩;simp only[aA] at hs⊢;obtain⟨⟨q1,q2⟩,hs⟩:=aB.1 hs;refine aB.2 ⟨⟨by simp,q2⟩,?_⟩;have h3:=aI (B:=star (aG true b off (ps.map iB)) (star (bU (nn+1) b off ps.length cap) (star (hdr b T N) (star (big (σ.heap.set h .nil)) F)))) hs (by ac_rfl);have h4:=L7 h3;simp only[List.map_nil,aG,aH,List.length_nil];exact aI h4 (by ac_rfl)
       ·cases hc0
      ·simp at h2
     ·simp at h2
    ·exact elseC fun β=>by simp only[AZ,aE,h1,Option.bind_some,aQ]
   ·exact elseC fun β=>by simp only[AZ,aE,h1,Option.bind_some]
 |true=>
  unfold saC at hc;split at hc
  ·apply bT.pure;intro σ F a w d hm hv hobl;simp only[LQ,aE,Option.bind_eq_some_iff] at hv;obtain⟨v,h1,h2⟩:=hv;have e1:=aK hm h1;split at h2
   ·rename_i h b;split at h2
    ·rename_i n1 g1 z1 n e ht;have hu:=(aS (hS.tt _ _ ht).kind).2.2.2.2.2.2.2.2.1 n e rfl;split at h2
     ·rename_i i he;have hs1:=fun w=>(hS.tt _ _ he).run_sizeOf w;simp only[aC,Option.some.injEq] at h2;subst h2;refine⟨rfl,rfl,?_⟩;have hrun:(Instr.sliceAt t (.pointer (some ⟨b,0,none⟩)) none none none).run P w=.ok (.slice (some ⟨b,0,none⟩) n n) w:=by
       have ha:∀w,(Instr.sureAddr (Value.pointer (some ⟨b,0,none⟩))).run P w=.ok ⟨b,0,none⟩ w:=fun w=>rfl;have hb:∀w,(Instr.sliceBounds false n n none none none).run P w=.ok (0,n,n) w:=by intro w;simp[Instr.sliceBounds,Instr.sliceBound,asIntOf,Sem.run_bind,Sem.run_pure,Result.andThen_ok]
       simp only[Instr.sliceAt,Sem.run_bind,run_underlying hu,Result.andThen_ok,ha,hb,hs1,Sem.run_pure,Nat.zero_mul,Nat.sub_zero];congr 3;split<;>rfl
      simp only[execOp,ho,e1,SV.den,Option.map_none,Sem.run_bind,hrun,Result.andThen_ok,Sem.run_pure]
     ·simp at h2
    ·simp at h2
   ·simp at h2
  ·simp at hc
end
end Go.Sx
namespace Go.Sx
open Go
section
variable {P:Program}
variable (TT:TypeId→Option TyI) (AR:lT→IntKind→Int→Int→Int) (CM:mU→Int→Int→Bool) (SE:ByteArray→ByteArray→Bool)
theorem fD {L:List C} {p:Nat} {c:C} (h:L.getD p .nil=c):big L=star c.den (big (L.set p .nil)):=by rw[bV L p,h]
theorem dJ {L:List C} {p:Nat} {c d:C} (h:L.getD p .nil=c) (hc:c≠.nil):big (L.set p d)=star d.den (big (L.set p .nil)):=
 dW L p d (jG (by rw[h];exact hc))
theorem j6 {w:World} {T:TypeId} {k:IntKind} {nn b off cap n:Nat} {l:List Int} {A:HProp} (hn:0<n) (h:sat w (star (iG T k nn b off cap n l) A)):∃N,nn≠0∧l.length=n∧n≤cap∧off+cap≤N∧
  sat w (star (aG true b off (l.map (Value.int k))) (star (hdr b T N) (star (bU nn b off n cap) A))):=by
 cases nn with
 |zero=>have:=(aB.1 h).1;omega|succ nn=>simp only[iG] at h;rw[aL] at h;obtain⟨N,h⟩:=h;simp only[aA] at h;obtain⟨⟨h1,h2,h3⟩,h⟩:=aB.1 h;exact⟨N,by omega,h1,h2,h3,aI h (by ac_rfl)⟩
theorem iE {w:World} {T:TypeId} {k:IntKind} {nn b off cap n N:Nat} {l:List Int} {A:HProp} (hn:nn≠0) (h1:l.length=n) (h2:n≤cap) (h3:off+cap≤N)
  (h:sat w (star (aG true b off (l.map (Value.int k))) (star (hdr b T N) (star (bU nn b off n cap) A)))):sat w (star (iG T k nn b off cap n l) A):=by
 cases nn with
 |zero=>exact absurd rfl hn|succ nn=>simp only[iG];rw[aL];refine⟨N,?_⟩;simp only[aA];exact aB.2 ⟨⟨h1,h2,h3⟩,aI h (by ac_rfl)⟩
theorem eC {b:Nat} {v:Value}:∀(vs:List Value) (off j:Nat) {w:World} {A:HProp},j<vs.length→sat w (star (aG true b off vs) A)→sat (w.setCell ⟨b,off+j,none⟩ v) (star (aG true b off (vs.set j v)) A)
 |[],_,_,_,_,h,_=>by simp at h
 |x::vs,off,0,w,A,h,hs=>by simp only[aG,if_true,List.set_cons_zero,aA] at hs⊢;exact nT hs
 |x::vs,off,j+1,w,A,h,hs=>by simp only[aG,if_true,List.set_cons_succ,aA] at hs⊢;rw[aM] at hs⊢;have:=eC (v:=v) vs (off+1) j (A:=star (pts (b,some off) (.val x)) A) (by simpa using h) hs;rw[show off+(j+1)=off+1+j by omega];exact this
variable {AR:lT→IntKind→Int→Int→Int} {SE:ByteArray→ByteArray→Bool}
theorem qA {σ:St Pay} {F:HProp} {w:World} {h:Nat} {T:TypeId} {k:IntKind} {nn b off cap n:Nat} {l:List Int} (hc:σ.heap.getD h .nil=.prd (.mr T k nn b off cap n l)) (hs:sat w (star (big σ.heap) F)):
  sat w (star (iG T k nn b off cap n l) (star (big (σ.heap.set h .nil)) F)):=by
 rw[fD hc,aA] at hs;exact hs
def nP (x:List Int×Nat×Int):List Int:=x.1.set x.2.1 x.2.2
def vO (TX:TF) (t:TypeId) (p x:Operand):SM Pay (Delta Pay):=(ev p).bind fun v=>match v with
 |.el h b off j=>(ev x).bind fun y=>match TT t with
  |some ⟨1,false,_,.int k⟩=>match y with
   |.i k2 y=>.rdC h fun c=>match c with
    |.prd (.mr T k' nn b' off' cap' n' l)=>.ret {res:=.v undef,ws:=[.cel h (.prd (.mr T k' nn b' off' cap' n' (TX.ap nP (l,j,y))))],obl:=b=b'∧off=off'∧k=k'∧k2=k∧CM .lt (Int.ofNat j) (Int.ofNat n')=true}|_=>.fail
   |_=>.fail
  |some ⟨1,false,_,.ptr _⟩=>match y with
   |.v (.pointer none)=>.rdC h fun c=>match c with
    |.prd (.mo T nn' b' off' cap' ps)=>.ret {res:=.v undef,ws:=[.cel h (.prd (.mo T nn' b' off' cap' (ps.set j none)))],obl:=b=b'∧off=off'∧CM .lt (Int.ofNat j) (Int.ofNat ps.length)=true}|_=>.fail
   |_=>.fail
  |_=>.fail
 |_=>kK TT t p x
theorem DM {TX:TF} (hTX:TX=tfStd) (hS:Std P TT AR CM SE) (o:Oper) (t:TypeId) (p x:Operand) (ho:o.op=.store t p x):bT P o fun _=>(vO TT CM TX t p x:SM Pay (Delta Pay)):=by
 intro σ F a w next Q hm hv hout hk
 obtain⟨d,hv0,hob⟩:=hv (fun _=>0);have hv1:=hv0;simp only[vO,aE,Option.bind_eq_some_iff] at hv0;obtain⟨v,h1,h2⟩:=hv0;have e:=aK hm h1;have elseC:(∀h b off j,v≠.el h b off j)→Oper.wp P o a w next Q∨(Oper.asks P o a w∧LetsOut Q):=by
  intro hn;have hval:(vO TT CM TX t p x:SM Pay (Delta Pay)).val σ=(kK TT t p x:SM Pay (Delta Pay)).val σ:=by simp only[vO,aE,h1,Option.bind_some]
  simp only[hval] at hv hk;exact qF TT AR CM SE hS o t p x ho σ F a w next Q hm hv hout hk
 cases v with
 |el h b off j=>
  simp only[aE,Option.bind_eq_some_iff] at h2;obtain⟨y,h1',h2⟩:=h2;have e2:=aK hm h1';split at h2
  ·rename_i k ht;have hT:=hS.tt _ _ ht;split at h2
   ·rename_i k2 y;simp only[aQ] at h2;split at h2
    ·rename_i T k' nn b' off' cap' n' l hc;simp only[aC,Option.some.injEq] at h2;subst h2;obtain⟨rfl,rfl,rfl,rfl,o1⟩:=hob;have hlt:=jK TT AR CM SE hS o1;obtain⟨N,hnn,hl,hcap,hN,hs⟩:=j6 (by omega) (qA hc hm.2.2);have hcell:=aX _ off hs j (.int k2 (dI l j)) (by rw[List.getElem?_map,cO (by omega)];rfl);have hst:=kW (P:=P) (v:=.int k2 y) rfl hcell;have hrun:(Instr.storeAt t (.pointer (some ⟨b,off+j,none⟩)) (.int k2 y)).run P w=.ok () (w.setCell ⟨b,off+j,none⟩ (.int k2 y)):=
      fK hT rfl (by simpa [storeCells,Value.cells,Addr.add] using hst)
     left;have hk:=hk (fun _=>0) _ (w.setCell ⟨b,off+j,none⟩ (.int k2 y)) hv1 trivial ?_
     ·unfold Oper.wp;simp[execOp,ho,e,e2,SV.den,hrun,Oper.upon];exact hk
     ·simp only[puts,W.put];rw[dJ hc (by simp),aA];subst hTX;refine iE hnn (by simpa [tfStd,nP] using hl) hcap hN ?_;have:=eC (v:=.int k2 y) _ off j (by simp;omega) hs;rw[←List.map_set] at this;exact this
    ·simp at h2
   ·simp at h2
  ·rename_i z k ht;have hT:=hS.tt _ _ ht;split at h2
   ·simp only[aQ] at h2;split at h2
    ·rename_i T nn' b' off' cap' ps hc;simp only[aC,Option.some.injEq] at h2;subst h2;obtain⟨rfl,rfl,o1⟩:=hob;have hlt:=jK TT AR CM SE hS o1;obtain⟨N,hnn,hcap,hN,hs⟩:=vV (by omega) (BX hc hm.2.2);have hcell:=aX _ off hs j (iB (ps.getD j none)) (by rw[List.getElem?_map,List.getD_eq_getElem?_getD,List.getElem?_eq_getElem hlt];rfl);have hst:=kW (P:=P) (v:=.pointer none) rfl hcell;have hrun:(Instr.storeAt t (.pointer (some ⟨b,off+j,none⟩)) (.pointer none)).run P w=.ok () (w.setCell ⟨b,off+j,none⟩ (.pointer none)):=
      fK hT rfl (by simpa [storeCells,Value.cells,Addr.add] using hst)
     left;have hk:=hk (fun _=>0) _ (w.setCell ⟨b,off+j,none⟩ (.pointer none)) hv1 trivial ?_
     ·unfold Oper.wp;simp[execOp,ho,e,e2,SV.den,hrun,Oper.upon];exact hk
     ·simp only[puts,W.put];rw[dJ hc (by simp),aA];refine sX hnn (by simpa using hcap) hN ?_;have:=eC (v:=.pointer none) _ off j (by simp;omega) hs;rw[show (Value.pointer none)=iB none from rfl,←List.map_set] at this;rw[List.length_set];exact this
    ·simp at h2
   ·simp at h2
  ·simp at h2
 |_=>exact elseC (by intros;simp)
end
def eqTab:TypeId→Option (List TK)
 |31=>some [.int .u64,.int .u64,.int .u64]|81=>some [.int .u64,.int .u64,.int .i64,.str]|_=>none
def EqFs (P:Program):List TK→List Field→Nat→Prop
 |[],[],_=>True|k::ks,f::fs,j=>(f.name≠ "_"∧f.offset=j∧P.plainKey f.type=true∧(match k with|.int q=>P.underlying f.type=some (.int q)|.str=>P.underlying f.type=some .string|_=>False))∧EqFs P ks fs (j+1)|_,_,_=>False
def vK (P:Program):List TK→List Field→Nat→Bool
 |[],[],_=>true|k::ks,f::fs,j=>(f.name != "_")&&Nat.beq f.offset j&&P.plainKey f.type&&(match k,P.underlying f.type with|.int q,some (.int q')=>decide (q'=q)|.str,some .string=>true|_,_=>false)&&vK P ks fs (j+1)|_,_,_=>false
theorem qJ {P:Program}:∀(ks:List TK) (fs:List Field) (j:Nat),vK P ks fs j=true→EqFs P ks fs j
 |[],[],_,_=>trivial|k::ks,f::fs,j,h=>by
  simp only[vK,Bool.and_eq_true] at h;obtain⟨⟨⟨⟨h1,h2⟩,h3⟩,h4⟩,h5⟩:=h;refine⟨⟨by simpa using h1,Nat.eq_of_beq_eq_true h2,h3,?_⟩,qJ ks fs (j+1) h5⟩;split at h4
  ·rename_i q q' e;have:q'=q:=by simpa using h4
   subst this;exact e
  ·rename_i e;exact e
  ·cases h4
 |[],_::_,_,h=>by simp[vK] at h
 |_::_,[],_,h=>by simp[vK] at h
structure EqT (P:Program):Prop where
 ok:∀t ks,eqTab t=some ks→P.underlying t=some (.struct (P.fieldsOf t))∧P.stoodInHeld t=false∧P.eqGuardType P.depth t=false∧EqFs P ks (P.fieldsOf t).toList 0
section
variable {P:Program}
variable (TT:TypeId→Option TyI) (AR:lT→IntKind→Int→Int→Int) (CM:mU→Int→Int→Bool) (SE:ByteArray→ByteArray→Bool)
def vI (k:TK) (a b:SV):Option Bool:=match k with
 |.int _=>match bG a,bG b with
  |some (_,ka,x),some (_,kb,y)=>match decide (ka=kb) with
   |true=>some (CM .eq x y)|false=>none
  |_,_=>none
 |.str=>match rR a,rR b with
  |some s,some s'=>some (SE s s')|_,_=>none
 |_=>none
def EY:List TK→List SV→List SV→Option Bool
 |[],[],[]=>some true|k::ks,a::as,b::bs=>match vI CM SE k a b with
  |some p=>match p with
   |true=>EY ks as bs|false=>match EY ks as bs with
    |some _=>some false|none=>none
  |none=>none
 |_,_,_=>none
theorem xX (hS:Std P TT AR CM SE) (d:Nat) (w:World) (xs ys:Array Value):∀(ks:List TK) (fs:List Field) (j:Nat) (as bs:List SV) (r:Bool),EqFs P ks fs j→EY CM SE ks as bs=some r→
  (∀k v,(SV.dens as)[k]?=some v→xs[j+k]?=some v)→(∀k v,(SV.dens bs)[k]?=some v→ys[j+k]?=some v)→(Op.eqFields (d+1) xs ys fs).run P w=.ok r w
 |[],[],j,[],[],r,_,h,_,_=>by simp only[EY,Option.some.injEq] at h;subst h;simp[Op.eqFields]
 |k::ks,f::fs,j,a::as,b::bs,r,hf,h,hx,hy=>by
  obtain⟨⟨h1,h2,h3,h4⟩,hfs⟩:=hf;have x0:=hx 0 a.den (by simp[SV.dens]);have y0:=hy 0 b.den (by simp[SV.dens]);rw[Nat.add_zero] at x0 y0;have ih:=fun r hr=>xX hS d w xs ys ks fs (j+1) as bs r hfs hr (fun k v hv=>by rw[show j+1+k=j+(k+1) by omega];exact hx (k+1) v (by simpa [SV.dens] using hv)) (fun k v hv=>by rw[show j+1+k=j+(k+1) by omega];exact hy (k+1) v (by simpa [SV.dens] using hv));simp only[EY] at h;cases h5:vI CM SE k a b with
  |none=>simp[h5] at h|some p=>
   have hone:(Op.equalIn (d+1) f.type a.den b.den).run P w=.ok p w:=by
    cases k with
    |int q=>
     simp only[vI] at h5;split at h5
     ·rename_i _ _ l ka x l' kb y ha hb;split at h5
      ·rename_i hkk;have hkk:ka=kb:=by simpa using hkk
       subst hkk;simp only[Option.some.injEq] at h5;subst h5;rw[d8 ha,d8 hb,hS.cm];have e5:=run_equalIn_int (P:=P) w d f.type ka q x y h4;rw[show cmStd .eq x y=(x==y) from rfl];exact e5
      ·cases h5
     ·cases h5
    |str=>
     simp only[vI] at h5;split at h5
     ·rename_i _ _ s s' ha hb;simp only[Option.some.injEq] at h5;subst h5;rw[kN ha,kN hb,hS.se];exact run_equalIn_string w d f.type s s' h4
     ·cases h5
    |_=>simp[vI] at h5
   simp only[Op.eqFields,h1,ne_eq,not_false_eq_true,if_true,h2,Sem.run_bind,run_part_plain w h3 x0,run_part_plain w h3 y0,Result.andThen_ok,hone];rw[h5] at h;cases p with
   |true=>simpa using ih r h|false=>
    simp only at h;split at h
    ·cases h;simp
    ·cases h
 |[],_::_,_,_,_,_,hf,_,_,_=>hf.elim|_::_,[],_,_,_,_,hf,_,_,_=>hf.elim|[],[],_,_::_,_,_,_,h,_,_=>by simp[EY] at h
 |[],[],_,[],_::_,_,_,h,_,_=>by simp[EY] at h
 |_::_,_::_,_,[],_,_,_,h,_,_=>by simp[EY] at h
 |_::_,_::_,_,_::_,[],_,_,h,_,_=>by simp[EY] at h
def eI (op:BinOp) (t:TypeId) (x y:Operand):SM Pay (Delta Pay):=(ev x).bind fun a=>match a with
 |.agg as=>(ev y).bind fun b=>match b with
  |.agg bs=>match eqTab t with
   |some ks=>match EY CM SE ks as bs with
    |some r=>match op with
     |.eql=>.ret {res:=.bl r}|.neq=>.ret {res:=.bl (!r)}|_=>.fail
    |none=>.fail
   |none=>.fail
  |_=>.fail
 |.v .nilIface=>(ev y).bind fun b=>match b with
  |.ifc _ _=>match TT t with
   |some ⟨_,_,_,.iface⟩=>match op with
    |.eql=>.ret {res:=.bl false}|.neq=>.ret {res:=.bl true}|_=>.fail
   |_=>.fail
  |_=>pK TT AR CM SE op t x y
 |_=>pK TT AR CM SE op t x y
theorem zV (hE:EqT P) (hS:Std P TT AR CM SE) (o:Oper) (op:BinOp) (t:TypeId) (x y:Operand) (yt:TypeId) (ho:o.op=.binOp op t x y yt):
  bT P o fun _=>(eI TT AR CM SE op t x y:SM Pay (Delta Pay)):=by
 intro σ F a w next Q hm hv hout hk
 obtain⟨d0,hv0,hob⟩:=hv (fun _=>0);simp only[eI,aE,Option.bind_eq_some_iff] at hv0;obtain⟨va,h1,h2⟩:=hv0;have ea:=aK hm h1;have elseC:((eI TT AR CM SE op t x y:SM Pay (Delta Pay)).val σ=(pK TT AR CM SE op t x y:SM Pay (Delta Pay)).val σ)→Oper.wp P o a w next Q∨(Oper.asks P o a w∧LetsOut Q):=by intro hval;simp only[hval] at hv hk;exact uL TT AR CM SE hS o op t x y yt ho σ F a w next Q hm hv hout hk
 split at h2
 ·rename_i as;simp only[aE,Option.bind_eq_some_iff] at h2;obtain⟨vb,h3,h4⟩:=h2;have eb:=aK hm h3;split at h4
  ·rename_i bs;split at h4
   ·rename_i ks hks;split at h4
    ·rename_i r hr;obtain⟨q1,q2,q3,q4⟩:=hE.ok t ks hks;have hdA:(SV.agg as).den=.agg (SV.dens as).toArray:=by simp[SV.den]
     have hdB:(SV.agg bs).den=.agg (SV.dens bs).toArray:=by simp[SV.den]
     have hrun:=xX TT AR CM SE hS 9998 w (SV.dens as).toArray (SV.dens bs).toArray ks _ 0 as bs r q4 hr (fun k v hv=>by simpa using hv) (fun k v hv=>by simpa using hv);have hg:(eqGuard op t x y (.agg (SV.dens as).toArray) (.agg (SV.dens bs).toArray)).run P w=.ok () w:=run_eqGuard_agg w op t x y _ _ q3;have he:(Op.equalIn 10000 t (.agg (SV.dens as).toArray) (.agg (SV.dens bs).toArray)).run P w=.ok r w:=by rw[run_equalIn_agg w 9999 t _ _ q1 q2];exact hrun
     split at h4
     ·simp only[aC,Option.some.injEq] at h4;subst h4;refine cT (f:=fun _=>eI TT AR CM SE .eql t x y) hm hv hk ⟨fun _=>0,fun d hd hobl=>?_⟩;simp only[eI,aE,h1,Option.bind_some,h3,hks,hr,aC,Option.some.injEq] at hd;subst hd;refine⟨rfl,?_,by simpa [puts] using hm.2.2⟩;simp only[execOp,ho,ea,eb,hdA,hdB,Sem.run_bind,hg,Result.andThen_ok,run_eql_struct,he,Sem.run_pure];rfl
     ·simp only[aC,Option.some.injEq] at h4;subst h4;refine cT (f:=fun _=>eI TT AR CM SE .neq t x y) hm hv hk ⟨fun _=>0,fun d hd hobl=>?_⟩;simp only[eI,aE,h1,Option.bind_some,h3,hks,hr,aC,Option.some.injEq] at hd;subst hd;refine⟨rfl,?_,by simpa [puts] using hm.2.2⟩;simp only[execOp,ho,ea,eb,hdA,hdB,Sem.run_bind,hg,Result.andThen_ok,run_neq_struct,he,Sem.run_pure];rfl
     ·simp at h4
    ·simp at h4
   ·simp at h4
  ·simp at h4
 ·simp only[aE,Option.bind_eq_some_iff] at h2;obtain⟨vb,h3,h4⟩:=h2;have eb:=aK hm h3;split at h4
  ·rename_i ti vi;split at h4
   ·rename_i n g z ht;obtain⟨ms,hu⟩:=(aS (hS.tt _ _ ht).kind).2.2.2.1 rfl;have hg:(eqGuard op t x y (SV.v .nilIface).den (SV.ifc ti vi).den).run P w=.ok () w:=dT op t x y _ _ w (.inr (.inl (by simp[SV.den]))) (by simp[SV.den]);have he:(Op.equal t (SV.v .nilIface).den (SV.ifc ti vi).den).run P w=.ok false w:=by
     have h:∀d:Nat,(Op.equalIn (d+1) t .nilIface (.iface ti vi.den)).run P w=.ok false w:=fun d=>by simp[Op.equalIn,run_underlying hu]
     exact h 9999
    split at h4
    ·simp only[aC,Option.some.injEq] at h4;subst h4;refine cT (f:=fun _=>eI TT AR CM SE .eql t x y) hm hv hk ⟨fun _=>0,fun d hd hobl=>?_⟩;simp only[eI,aE,h1,Option.bind_some,h3,ht,aC,Option.some.injEq] at hd;subst hd;refine⟨rfl,?_,by simpa [puts] using hm.2.2⟩;have hb:(binOp .eql t (SV.v .nilIface).den (SV.ifc ti vi).den).run P w=.ok (.bool false) w:=by
      simp only[SV.den] at he⊢;simp only[binOp];simp[he]
     simp only[execOp,ho,ea,eb,Sem.run_bind,hg,Result.andThen_ok,hb,Sem.run_pure];rfl
    ·simp only[aC,Option.some.injEq] at h4;subst h4;refine cT (f:=fun _=>eI TT AR CM SE .neq t x y) hm hv hk ⟨fun _=>0,fun d hd hobl=>?_⟩;simp only[eI,aE,h1,Option.bind_some,h3,ht,aC,Option.some.injEq] at hd;subst hd;refine⟨rfl,?_,by simpa [puts] using hm.2.2⟩;have hb:(binOp .neq t (SV.v .nilIface).den (SV.ifc ti vi).den).run P w=.ok (.bool true) w:=by
      simp only[SV.den] at he⊢;simp only[binOp];simp[he]
     simp only[execOp,ho,ea,eb,Sem.run_bind,hg,Result.andThen_ok,hb,Sem.run_pure];rfl
    ·simp at h4
   ·simp at h4
  ·rename_i hne;exact elseC (by simp only[eI,aE,h1,Option.bind_some,h3])
 ·rename_i hn1 hn2;exact elseC (by simp only[eI,aE,h1,Option.bind_some])
end
section
variable {P:Program}
variable (KF KE:TypeId→Option (List FK))
variable (TT:TypeId→Option TyI) (AR:lT→IntKind→Int→Int→Int) (CM:mU→Int→Int→Bool) (SE:ByteArray→ByteArray→Bool)
variable (NF:List FV→Nat→FV) (NI:List Int→Nat→Int) (NA:iC)
def nE (MU:Nat→Nat→Nat) (t:TypeId) (x:Operand):SM Pay (Delta Pay):=(ev x).bind fun v=>match v with
 |.el h b off j=>.rdC h fun c=>match c with
  |.prd (.sl _ nn' b' off' cap' f)=>match TT t with
   |some ⟨n,g,_,_⟩=>match g with
    |false=>match f with
     |.ul _ k m l=>.ret {res:=.i k (NI l j),obl:=b=b'∧off=off'∧CM .lt (Int.ofNat j) (Int.ofNat m)=true}|.sl _ sz m l=>(LW NF l j 1).bind fun vs=>match vs with
      |[v]=>.ret {res:=v,obl:=b=b'∧off=off'∧CM .lt (Int.ofNat j) (Int.ofNat (mR MU m sz))=true}|_=>.fail
     |_=>.fail
    |true=>match f with
     |.sl _ sz m l=>(LW NF l j n).bind fun vs=>.ret {res:=.agg vs,obl:=b=b'∧off=off'∧CM .le (Int.ofNat (j+n)) (Int.ofNat (mR MU m sz))=true}|_=>.fail
   |none=>.fail
  |.prd (.mr T k' nn' b' off' cap' n' l)=>match TT t with
   |some ⟨1,false,_,.int k⟩=>.ret {res:=.i k' (NI l j),obl:=b=b'∧off=off'∧k=k'∧CM .lt (Int.ofNat j) (Int.ofNat n')=true}|_=>.fail
  |_=>.fail
 |_=>lM TT t x
theorem FO (MU:Nat→Nat→Nat) (hMU:MU=fun a b=>a*b) (hNF:NF=nth) (hNI:NI=dI) (hS:Std P TT AR CM SE) (o:Oper) (t:TypeId) (x:Operand) (ho:o.op=.load t x):bT P o fun _=>(nE TT CM NF NI MU t x:SM Pay (Delta Pay)):=by
 intro σ F a w next Q hm hv hout hk
 obtain⟨d,hv0,hob⟩:=hv (fun _=>0);simp only[nE,aE,Option.bind_eq_some_iff] at hv0;obtain⟨v,h1,h2⟩:=hv0;have e:=aK hm h1;have elseC:(∀h b off j,v≠.el h b off j)→Oper.wp P o a w next Q∨(Oper.asks P o a w∧LetsOut Q):=by
  intro hn;have hval:(nE TT CM NF NI MU t x:SM Pay (Delta Pay)).val σ=(lM TT t x:SM Pay (Delta Pay)).val σ:=by simp only[nE,aE,h1,Option.bind_some]
  simp only[hval] at hv hk;exact nG TT AR CM SE hS o t x ho σ F a w next Q hm hv hout hk
 cases v with
 |el h b off j=>
  simp only[aQ] at h2;split at h2
  ·rename_i sp nn b' off' cap f hc;split at h2
   ·rename_i n g z k ht;have hT:=hS.tt _ _ ht;have hs0:=bY hc hm.2.2;split at h2
    ·split at h2
     ·rename_i T k m l;simp only[aC,Option.some.injEq] at h2;subst h2;obtain⟨rfl,rfl,o3⟩:=hob;have o3:=jK TT AR CM SE hS o3;refine cT (f:=fun _=>nE TT CM NF NI MU t x) hm hv hk ⟨fun _=>0,fun d hd hobl=>?_⟩;simp only[nE,aE,h1,Option.bind_some,aQ,hc,ht,aC,Option.some.injEq] at hd;subst hd;rw[cS rfl] at hs0;obtain⟨vs,hs0⟩:=hs0;have h3:=aI (B:=star ((FV.ul T k m l).elems vs) _) hs0 (aM _ _ _);obtain⟨rfl,hlm⟩:=cF h3;have hcell:=hH hs0 (j:=j) (v:=.int k (NI l j)) (by rw[List.getElem?_map,hNI,cO (by omega)];rfl);have:=cW hT rfl hcell;refine⟨rfl,?_,by simpa [puts] using hm.2.2⟩;simp only[execOp,ho,e,SV.den,Sem.run_bind,this,Result.andThen_ok,Sem.run_pure]
     ·rename_i T sz m l;simp only[aE,Option.bind_eq_some_iff] at h2;obtain⟨r,h7,h8⟩:=h2;split at h8
      ·rename_i v;simp only[aC,Option.some.injEq] at h8;subst h8;obtain⟨rfl,rfl,o3⟩:=hob;have o3:=jK TT AR CM SE hS o3;refine cT (f:=fun _=>nE TT CM NF NI MU t x) hm hv hk ⟨fun _=>0,fun d hd hobl=>?_⟩;simp only[nE,aE,h1,Option.bind_some,aQ,hc,ht,h7,aC,Option.some.injEq] at hd;subst hd;rw[cS rfl] at hs0;obtain⟨vs,hs0⟩:=hs0;have h3:=aI (B:=star ((FV.sl T sz m l).elems vs) _) hs0 (aM _ _ _);simp only[FV.elems,aA] at h3;have h4:=(aB.1 h3).2;have hvl:=(aB.1 h3).1;obtain⟨a1,a2⟩:=tR hNF h4 _ _ h7 (by rw[gG h4,hvl,←gQ hMU];exact o3);have hcell:=hH hs0 (a2 0 v.den rfl);have:=cW hT rfl hcell;refine⟨rfl,?_,by simpa [puts] using hm.2.2⟩;simp only[Nat.add_zero] at this;simp only[execOp,ho,e,SV.den,Sem.run_bind,this,Result.andThen_ok,Sem.run_pure]
      ·simp at h8
     ·simp at h2
    ·split at h2
     ·rename_i T sz m l;simp only[aE,Option.bind_eq_some_iff] at h2;obtain⟨r,h7,h8⟩:=h2;simp only[aC,Option.some.injEq] at h8;subst h8;obtain⟨rfl,rfl,o3⟩:=hob;have o3:=yD TT AR CM SE hS o3;refine cT (f:=fun _=>nE TT CM NF NI MU t x) hm hv hk ⟨fun _=>0,fun d hd hobl=>?_⟩;simp only[nE,aE,h1,Option.bind_some,aQ,hc,ht,h7,aC,Option.some.injEq] at hd;subst hd;rw[cS rfl] at hs0;obtain⟨vs,hs0⟩:=hs0;have h3:=aI (B:=star ((FV.sl T sz m l).elems vs) _) hs0 (aM _ _ _);simp only[FV.elems,aA] at h3;have h4:=(aB.1 h3).2;have hvl:=(aB.1 h3).1;obtain⟨a1,a2⟩:=tR hNF h4 _ _ h7 (by rw[gG h4,hvl,←gQ hMU];exact o3);have:=iN hT rfl (w:=w) (b:=b) (off:=off+j) (cs:=SV.dens r) (by rw[bD,a1]) (fun k v hk=>by rw[Nat.add_assoc];exact hH hs0 (a2 k v hk));refine⟨rfl,?_,by simpa [puts] using hm.2.2⟩;simp only[execOp,ho,e,SV.den,Sem.run_bind,this,Result.andThen_ok,Sem.run_pure]
     ·simp at h2
   ·simp at h2
  ·rename_i T k' nn b' off' cap' n' l hc;split at h2
   ·rename_i k ht;have hT:=hS.tt _ _ ht;simp only[aC,Option.some.injEq] at h2;subst h2;obtain⟨rfl,rfl,rfl,o1⟩:=hob;have hlt:=jK TT AR CM SE hS o1;obtain⟨N,hnn,hl,_,_,hs⟩:=j6 (by omega) (qA hc hm.2.2);have hcell:=(aX _ off hs j (.int k (dI l j)) (by rw[List.getElem?_map,cO (by omega)];rfl)).1;have:=cW hT rfl hcell;refine cT (f:=fun _=>nE TT CM NF NI MU t x) hm hv hk ⟨fun _=>0,fun d hd hobl=>?_⟩;simp only[nE,aE,h1,Option.bind_some,aQ,hc,ht,aC,Option.some.injEq] at hd;subst hd;refine⟨rfl,?_,by simpa [puts] using hm.2.2⟩;subst hNI;simp only[execOp,ho,e,SV.den,Sem.run_bind,this,Result.andThen_ok,Sem.run_pure]
   ·simp at h2
  ·simp at h2
 |_=>exact elseC (by intros;simp)
def J6 (t:TypeId):Bool:=match TT t with
 |some ⟨_,_,_,k⟩=>match k with
  |.ptr _=>true|.slice _=>true|.func=>true|_=>false
 |none=>false
variable (TX:TF) (MT:nC) (rs:List (gV P Pay))
def NU (src dst:TypeId):Bool:=match TT src,TT dst with
 |some ⟨_,_,_,.str⟩,some ⟨_,_,_,.slice _⟩=>true|_,_=>false
def pP (base:Nat) (o:Oper) (β:Nat→Nat):SM Pay (Delta Pay):=match o.op with
 |.binOp op t x y _=>eI TT AR CM SE op t x y|_=>cV TT AR CM SE base o β
theorem AY (hE:EqT P) (hS:Std P TT AR CM SE) (hF:sU P TT) (base:Nat) (o:Oper):bT P o (pP TT AR CM SE base o):=by
 have hcore:=J8 TT AR CM SE hS hF base o (Pay:=Pay);unfold pP;generalize ho:o.op=op;cases op with
 |binOp op t x y yt=>exact zV TT AR CM SE hE hS o op t x y yt ho|_=>exact hcore
def nQ (o:Oper) (base:Nat) (β:Nat→Nat):SM Pay (Delta Pay):=match o.op with
 |.load t x=>match J6 TT t with
  |true=>s8 TT CM NF NI NA.mu base t x β|false=>nE TT CM NF NI NA.mu t x
 |.fieldAddr s x f=>pN TT s x f|.indexAddr t x i=>pI TT CM NA.mu t x i|.store t p x=>vO TT CM TX t p x|.call c=>match c.callee with
  |.builtin b=>match b with
   |.append=>l8 KF KE TT CM NA base c.args.toList c.argTypes.toList β|.len=>BW TT TX.sz c.args.toList c.argTypes.toList|.max=>ID AR .max c.args.toList|.min=>ID AR .min c.args.toList|_=>.fail
  |.invoke r m=>tZ MT rs base r m c.args.toList β|.value _=>jM rs base c β
 |.slice t x lo hi mx=>xS TT CM NA base t x lo hi mx β|.convert s d x=>oY TT AR TX base s d x β|_=>pP TT AR CM SE base o β
def GI (o:Oper):Nat:=match o.op with
 |.load t _=>match J6 TT t with
  |true=>1|false=>0
 |.box _ _=>1|.alloc _=>1|.buildSlice _ _ _=>1|.slice _ _ _ _ _=>1|.convert s d _=>match NU TT s d with
  |true=>1|false=>0
 |.call c=>match c.callee with
  |.builtin b=>match b with
   |.append=>1|_=>0
  |.value f=>match pM f with
   |some n=>match cN n rs with
    |some r=>r.nf|none=>0
   |none=>4
  |.invoke _ _=>4
 |_=>0
def BC (o:Oper):Bool:=match o.op with
 |.load t _=>J6 TT t|.box _ _=>true|.alloc _=>true|.buildSlice _ _ _=>true|.slice _ _ _ _ _=>true|.convert s d _=>NU TT s d|.call c=>match c.callee with
  |.builtin b=>match b with
   |.append=>true|_=>false
  |.value f=>match pM f with
   |some n=>match cN n rs with
    |some r=>r.nd|none=>false
   |none=>true
  |.invoke _ _=>true
 |_=>false
theorem N7 (hNA:NA=cC) (hTX:TX=tfStd) (hNF:NF=nth) (hNI:NI=dI) (hS:Std P TT AR CM SE) (hF:sU P TT) (hby:∀t i,(TT t).isSome=true→P.info? t=some i→i.bytes≤32768)
  (hE:EqT P) (hM:∀x∈MT,mOk P x) (hfn:∀r:gV P Pay,r∈rs→∃fn,P.funcs[r.f]?=some fn∧fn.body.isSome=true∧fn.name≠ "runtime.NumGoroutine") (o:Oper) (base:Nat):
  bT P o (nQ KF KE TT AR CM SE NF NI NA TX MT rs o base):=by
 have hcore:=AY TT AR CM SE hE hS hF base o;unfold nQ;generalize ho:o.op=op;have hc:∀op,o.op=op→bT P o (pP TT AR CM SE base o:(Nat→Nat)→SM Pay (Delta Pay)):=fun _ _=>hcore;cases op with
 |load t x=>
  simp only;cases J6 TT t with
  |true=>exact FH TT AR CM SE NF NI NA.mu (by rw[hNA];rfl) hNF hNI hS o base t x ho|false=>exact FO TT AR CM SE NF NI NA.mu (by rw[hNA];rfl) hNF hNI hS o t x ho
 |fieldAddr s x f=>exact CZ TT AR CM SE hS o s x f ho|indexAddr t x i=>exact CA TT AR CM SE NA.mu (by rw[hNA];rfl) hS o t x i ho|store t p x=>exact DM (TT:=TT) (AR:=AR) (CM:=CM) (SE:=SE) hTX hS o t p x ho|call c=>
  obtain⟨callee,args,ts⟩:=c;cases callee with
  |builtin b=>
   cases b with
   |append=>exact vY KF KE TT CM NA hNA hS hby o base args ts ho|len=>exact EO TT AR CM SE (by rw[hTX];rfl) hS o args ts ho|max=>exact zE TT AR CM SE hS o true args ts ho|min=>exact zE TT AR CM SE hS o false args ts ho|_=>exact bT.fail o
  |value f=>exact zO rs hfn o base _ ho|invoke r m=>exact DY MT rs hM hfn o base r m args ts ho
 |slice t x lo hi mx=>exact zN TT AR CM NA hNA hS o base t x lo hi mx ho|convert s d x=>exact wI TT AR TX CM hS hTX o base s d x ho|_=>exact hcore
theorem EG (o:Oper) (base:Nat) (h:BC TT rs o=false) (β β':Nat→Nat):nQ KF KE TT AR CM SE NF NI NA TX MT rs o base β=nQ KF KE TT AR CM SE NF NI NA TX MT rs o base β':=by
 unfold BC at h;unfold nQ;generalize ho:o.op=op at h;cases op with
 |load t x=>simp only at h⊢;rw[h]|call c=>
  obtain⟨callee,args,ts⟩:=c;cases callee with
  |builtin b=>cases b<;>first|rfl|cases h
  |value f=>
   simp only at h⊢;cases f with
   |func n=>
    simp only[pM] at h;simp only[jM,ev,SM.bind];cases hr:cN n rs with
    |none=>rfl|some r=>simp only[hr] at h;congr 1;funext as;exact r.same h _ _ β β'
   |_=>simp[pM] at h
  |invoke r m=>cases h
 |box _ _=>cases h|alloc _=>cases h|buildSlice _ _ _=>cases h|slice _ _ _ _ _=>cases h|convert s d x=>
  simp only at h⊢;unfold oY;split
  ·rfl
  unfold gR;split
  ·rename_i hs hd;simp[NU,hs,hd] at h
  ·rfl
  ·rfl
 |_=>simp only[pP,cV,ho]
end
def EC:List (TypeId×List FK)→TypeId→Option (List FK)
 |[],_=>none|(k,v)::r,t=>match Nat.beq k t with
  |true=>some v|false=>EC r t
def KFL:List (TypeId×List FK):=[
 (208,[.oi 205 .i32,.oi 22 .u64,.bys 5,.oi 22 .u64]),
 (212,[.oi 22 .u64,.oi 22 .u64,.oi 306 .i32,.bys 5]),
 (221,[.st,.oi 22 .u64,.oi 22 .u64]),
 (223,[.bys 5,.st]),
 (226,[.oi 22 .u64,.oi 22 .u64,.oi 22 .u64]),
 (229,[.ul 22 .u64,.ul 22 .u64,.ul 22 .u64,.ul 22 .u64,.ob 4]),
 (269,[.oi 266 .i32,.oi 22 .u64,.oi 22 .u64,.oi 22 .u64,.oi 22 .u64,.oi 22 .u64,.sl 209 1,.oi 22 .u64,.oi 22 .u64,.st,.ob 4,.oi 22 .u64,.bys 5,.sl 176 1]),
 (299,[.oi 295 .i32,.sl 348 1,.bys 5]),
 (386,[.sc,.sc,.sc,.bys 5]),
 (388,[.oi 205 .i32,.oi 22 .u64]),
 (348,[.st])]
def KEL:List (TypeId×List FK):=[
 (81,[.sc,.sc,.sc,.sc]),
 (38,[.sc,.sc,.sc,.sc,.sc,.sc,.sc,.sc,.sc,.sl 81 4,.sc,.sc,.sc,.ul 22 .u64,.ul 22 .u64,.ul 22 .u64,.ul 22 .u64,.sc,.sc,.sc,.sl 38 21]),
 (347,[.sc,.sc]),
 (44,[.sc,.sc,.sc,.sc,.sc,.sc,.sc,.sc,.sc,.sc,.sc,.sc,.sc,.sc,.sc,.sc,.sc,.sc,.sc,.sc,.sc,.sc,.sc,.sc,.sc,.sc,.sc,.sc]),
 (283,[.sc,.sc]),
 (86,[.sc,.sc,.sc,.sc]),
 (76,[.sl 79 16,.sc,.sc]),
 (79,[.sc,.sc,.sc,.sc,.sc,.sc,.sc,.sl 81 4,.sc,.sl 81 4,.ul 22 .u64,.ul 22 .u64,.ul 22 .u64,.ul 22 .u64,.sc,.sl 92 2]),
 (92,[.sc,.sc]),
 (89,[.sc,.sc]),
 (48,[.sc,.sc,.sc,.sc,.sc,.sc,.sc,.sc,.sc,.sc,.sc,.sc,.sc,.sc,.sc,.sc,.sc,.sc,.sc,.sc,.sc,.sc,.sc,.sc,.sc,.sc,.sc,.sc,.sc,.sc,.sc,.sc,.sc]),
 (9,[.sc]),
 (109,[.sc,.sc]),
 (191,[.st]),
 (209,[.st]),
 (176,[.st]),
 (281,[.sc,.bys 5]),
 (348,[.st]),
 (4,[.sc]),
 (386,[.sc,.sc,.sc,.bys 5]),
 (516,[.st]),
 (133,[.st]),
 (497,[.sc,.sc]),
 (24,[.ul 22 .u64]),
 (403,[.fn])]
def KF (t:TypeId):Option (List FK):=EC KFL t
def KE (t:TypeId):Option (List FK):=EC KEL t
def bE:List SV→Nat→SV
 |[],_=>.v undef|x::_,0=>x|_::r,n+1=>bE r n
abbrev iZ:=List (Nat×Nat)
def qQ (hp:List C) (p b:Nat):Option Fd:=(hG KF 9 .st (.ptr p b 0)).val ⟨[],hp⟩
def fkOf:FV→FK
 |.oi T k _=>.oi T k|.ob T _=>.ob T|_=>.st
def nO (hp:List C) (p:Nat) (v:Value) (f:FV):Option Fd:=match v with
 |.pointer none=>(hG KF 9 (fkOf f) (.v (.pointer none))).val ⟨[],hp⟩|.pointer (some ⟨b,off,none⟩)=>match off with
  |0=>(hG KF 9 (fkOf f) (.ptr p b 0)).val ⟨[],hp⟩|_=>none
 |_=>none
def cY (hp:List C):iZ→List C→List (W Pay)
 |(p,m)::pl,c::post=>match m,c with
  |1,.prd (.st b T fs)=>match qQ hp p b with
   |some r=>r.ps++cY hp pl post|none=>cY hp pl post
  |1,.prd (.im v f)=>match nO hp p v f with
   |some r=>r.ps++cY hp pl post|none=>cY hp pl post
  |_,_=>cY hp pl post
 |_,_=>[]
def SEnt (A B:HProp):Prop:=∀(w:World) (F:HProp),sat w (star A F)→sat w (star B F)
theorem SEnt.refl (A:HProp):SEnt A A:=fun _ _ h=>h
theorem eD.s {A B:HProp} (h:eD A B):SEnt A B:=fun _ _ hs=>sat.mono hs (eD.star h (eD.refl _))
theorem SEnt.str {A B X Y:HProp} (h:SEnt A B) (h':SEnt X Y):SEnt (star A X) (star B Y):=fun w F hs=>by have h1:=h w (star X F) (aI hs (by ac_rfl));have h2:=h' w (star B F) (aI h1 (by ac_rfl));exact aI h2 (by ac_rfl)
structure eF (xs:List C) (c:C):Prop where
 ent:SEnt (big xs) c.den
def dS (hp L:List C):iZ→List C→Prop
 |[],[]=>True|(p,m)::pl,c::post=>match m with
  |0=>sB (L.getD p .nil) c∧dS hp L pl post|1=>match c with
   |.prd (.st b T fs)=>match qQ hp p b with
    |some r=>r.obl∧r.f=.st T fs∧dS hp L pl post|none=>False
   |.prd (.im v f)=>match nO hp p v f with
    |some r=>r.obl∧r.f=f∧dS hp L pl post|none=>False
   |.free=>dS hp L pl post|_=>False
  |q+2=>match Nat.beq p q with
   |true=>eF [L.getD p .nil] c∧dS hp L pl post|false=>eF [L.getD p .nil,L.getD q .nil] c∧dS hp L pl post
 |_,_=>False
def dQ:iZ→List Nat
 |[]=>[]|(p,m)::pl=>match m with
  |0=>p::dQ pl|1=>dQ pl|q+2=>match Nat.beq p q with
   |true=>p::dQ pl|false=>p::q::dQ pl
def Fin (c:cJ Pay) (x:c.X) (β:Nat→Nat) (plan:iZ) (v:SV) (hp:List C):Prop:=
 pZ (c.fact x β)∧v.den=(c.res x β).den∧gK (dQ plan)=true∧dS hp (puts (cY hp plan (c.post x β)) hp) plan (c.post x β)
theorem yG {hp:List C} {p b:Nat} {r:Fd} (h:qQ hp p b=some r) (ho:r.obl):jH hp (.ptr p b 0) r∧nR hp r.ps:=
 pA KF (σ:=⟨[],hp⟩) 9 .st (.ptr p b 0) r h ho
theorem sI {hp:List C} {p:Nat} {v:Value} {f:FV} {r:Fd} (h:nO hp p v f=some r) (ho:r.obl):
  nR hp r.ps∧∀(L:List C) (w:World) (F:HProp),nJ hp L r.ps→oR hp L→sat w (star (big L) F)→sat w (star (r.f.den v) (star (big L) F)):=by
 unfold nO at h;split at h
 ·obtain⟨a,b⟩:=pA KF (σ:=⟨[],hp⟩) 9 _ _ r h ho;exact⟨b,a⟩
 ·split at h
  ·obtain⟨a,b⟩:=pA KF (σ:=⟨[],hp⟩) 9 _ _ r h ho;exact⟨b,a⟩
  ·cases h
 ·cases h
theorem F9 {w:World} {T:TypeId} {fs:List FV} {b:Nat} {A:HProp} (h:sat w (star ((FV.st T fs).den (.pointer (some ⟨b,0,none⟩))) A)):sat w (star (tX b T fs) A):=by simp only[FV.den] at h;rw[aL] at h;obtain⟨b',h⟩:=h;rw[aA,aB] at h;obtain⟨e,h⟩:=h;cases e;exact h
theorem gX {hp:List C}:∀(plan:iZ) (post:List C) (L:List C),dS hp L plan post→nR hp (cY hp plan post)
 |[],[],_,_=>fun _ h=>by simp[cY] at h
 |(p,m)::pl,c::post,L,h=>by
  intro x hx
  match m with
  |0=>exact gX pl post L h.2 x (by simpa [cY] using hx)|q+2=>
   simp only[dS] at h;have h2:dS hp L pl post:=by split at h<;>exact h.2
   exact gX pl post L h2 x (by simpa [cY] using hx)
  |1=>
   cases c with
   |prd q=>
    cases q with
    |st b T fs=>
     simp only[dS] at h;cases hf:qQ hp p b with
     |none=>rw[hf] at h;exact h.elim|some r=>
      rw[hf] at h;simp only[cY,hf] at hx;rcases List.mem_append.1 hx with hx|hx
      ·exact(yG hf h.1).2 x hx
      ·exact gX pl post L h.2.2 x hx
    |im v f=>
     simp only[dS] at h;cases hf:nO hp p v f with
     |none=>rw[hf] at h;exact h.elim|some r=>
      rw[hf] at h;simp only[cY,hf] at hx;rcases List.mem_append.1 hx with hx|hx
      ·exact(sI hf h.1).1 x hx
      ·exact gX pl post L h.2.2 x hx
    |_=>exact h.elim
   |free=>exact gX pl post L h x (by simpa [cY] using hx)|_=>exact h.elim
 |[],_::_,_,h=>by cases h
 |_::_,[],_,h=>by cases h
theorem kX {hp L:List C} (hN:oR hp L) {w:World}:∀(plan:iZ) (post:List C) (F:HProp),dS hp L plan post→(∀x∈cY hp plan post,∃p c,x=.cel p c∧L.getD p .nil=iR (hp.getD p .nil))→
  sat w (star (big L) F)→∃G,sat w (star G (star (big L) F))∧SEnt (star G (cZ L (dQ plan))) (big post)
 |[],[],F,_,_,hs=>⟨emp,by rw[aH];exact hs,by simp only[dQ,cZ,aH,big];exact SEnt.refl _⟩|(p,m)::pl,c::post,F,h,hS,hs=>by
  match m with
  |0=>obtain⟨G,h1,h2⟩:=kX hN pl post F h.2 (fun x hx=>hS x (by simpa [cY] using hx)) hs;refine⟨G,h1,?_⟩;have e:=(lN h.1).den;simp only[dQ,cZ,big];rw[aM,e];exact SEnt.str (SEnt.refl _) h2
  |q+2=>
   simp only[dS] at h;have h0:dS hp L pl post:=by split at h<;>exact h.2
   obtain⟨G,h1,h2⟩:=kX hN pl post F h0 (fun x hx=>hS x (by simpa [cY] using hx)) hs;refine⟨G,h1,?_⟩;split at h
   ·rename_i hpq;simp only[dQ,hpq,cZ,big];rw[aM];have:=h.1.ent;simp only[big,aO] at this;exact SEnt.str this h2
   ·rename_i hpq;simp only[dQ,hpq,cZ,big];have:=h.1.ent;simp only[big,aO] at this;have e:star G (star ((L.getD p .nil).den) (star ((L.getD q .nil).den) (cZ L (dQ pl))))=star (star ((L.getD p .nil).den) (L.getD q .nil).den) (star G (cZ L (dQ pl))):=by ac_rfl
    rw[e];exact SEnt.str this h2
  |1=>
   cases c with
   |prd q=>
    cases q with
    |st b T fs=>
     simp only[dS] at h;cases hf:qQ hp p b with
     |none=>rw[hf] at h;exact h.elim|some r=>rw[hf] at h;obtain⟨G,h1,h2⟩:=kX hN pl post F h.2.2 (fun x hx=>hS x (by simp only[cY,hf];exact List.mem_append_right _ hx)) hs;have h3:=(yG hf h.1).1 L w (star G F) (fun x hx=>hS x (by simp only[cY,hf];exact List.mem_append_left _ hx)) hN (aI h1 (by ac_rfl));rw[h.2.1] at h3;simp only[SV.den] at h3;have h4:=F9 h3;refine⟨star (tX b T fs) G,aI h4 (by ac_rfl),?_⟩;simp only[dQ,big,aA];exact SEnt.str (SEnt.refl _) h2
    |im v f=>
     simp only[dS] at h;cases hf:nO hp p v f with
     |none=>rw[hf] at h;exact h.elim|some r=>rw[hf] at h;obtain⟨G,h1,h2⟩:=kX hN pl post F h.2.2 (fun x hx=>hS x (by simp only[cY,hf];exact List.mem_append_right _ hx)) hs;have h3:=(sI hf h.1).2 L w (star G F) (fun x hx=>hS x (by simp only[cY,hf];exact List.mem_append_left _ hx)) hN (aI h1 (by ac_rfl));rw[h.2.1] at h3;refine⟨star (f.den v) G,aI h3 (by ac_rfl),?_⟩;simp only[dQ,big,aA];exact SEnt.str (SEnt.refl _) h2
    |_=>exact h.elim
   |free=>obtain⟨G,h1,h2⟩:=kX hN pl post F h (fun x hx=>hS x (by simpa [cY] using hx)) hs;refine⟨G,h1,?_⟩;simp only[dQ,big];rw[show (Cel.free:C).den=emp from rfl,aH];exact h2
   |_=>exact h.elim
 |[],_::_,_,h,_,_=>by cases h
 |_::_,[],_,h,_,_=>by cases h
def m9 (_:iZ):Bool:=true
theorem qP {hp post:List C} {plan:iZ} (h3:gK (dQ plan)=true) (h4:dS hp (puts (cY hp plan post) hp) plan post) (hpl:m9 plan=true) {w:World} {F:HProp} (hs:sat w (star (big hp) F)):sat w (star (big post) F):=by have hW:=gX _ _ _ h4;obtain⟨s1,s2,_,s4⟩:=tP (F:=F) _ hp hW rfl (fun p=>.inl rfl) hs;obtain⟨G,g1,g2⟩:=kX s2 _ _ F h4 s4 s1;rw[kP (dQ plan) _ (gM h3)] at g1;have g3:=aI (B:=star (star G (cZ (puts (cY hp plan post) hp) (dQ plan))) (star F (big (dF (dQ plan) (puts (cY hp plan post) hp))))) g1 (by ac_rfl);have g4:=g2 _ _ g3;exact(aI (B:=star (star (big post) F) (big (dF (dQ plan) (puts (cY hp plan post) hp)))) g4 (by ac_rfl)).fst
theorem E4 {c:cJ Pay} {x:c.X} {β:Nat→Nat} {plan:iZ} {v:SV} {hp:List C} (h:Fin c x β plan v hp) (hpl:m9 plan=true) {w:World} {F:HProp} (hs:sat w (star (big hp) F)):sat w (star (big (c.post x β)) F):=by obtain⟨_,_,h3,h4⟩:=h;exact qP h3 h4 hpl hs
section
variable (f:Oper→Nat→(Nat→Nat)→SM Pay (Delta Pay)) (nf:Oper→Nat) (nd:Oper→Bool) (CK:List RD→Bool)
variable (ST:Code→St Pay→(Ex→St Pay→Prop)→Prop)
variable (PV:List Nat→Nat→Bool) (pv:Oper→Bool) (xo:Oper→Nat→St Pay→(SV→List C→Prop)→Prop)
def AD (plan:iZ) (σ:St Pay) (T:List SV) (H:List C):Prop:=
 SV.dens σ.tmps=SV.dens T∧gK (dQ plan)=true∧m9 plan=true∧dS σ.heap (puts (cY σ.heap plan H) σ.heap) plan H
def jU:Prop:=∀(body:Code) (α:Type) (T:α→(Nat→SV)→List SV) (H:α→List C) (m:α→Nat) (x₀:α) (plan:iZ) (K:Ex→St Pay→Prop) (σ:St Pay),
 dD body=true→AD plan σ (T x₀ (bE σ.tmps)) (H x₀)→
 (∀(x:α) (j:Nat→SV) (LP:Ex→St Pay→Prop),(∃(w:World) (F:HProp),sat w (star (big (H x)) F))→(∀(y:α) (plan:iZ) (σ':St Pay),m y<m x→AD plan σ' (T y (bE σ'.tmps)) (H y)→LP .normal σ')→
  (∀id σ',K (.exit id) σ'→LP (.exit id) σ')→(∀σ',K .ret σ'→LP .ret σ')→nS f nf nd CK ST PV pv xo body ⟨T x j,H x⟩ LP)→
 ST (.loop body) σ K
theorem oD {plan:iZ} {σ:St Pay} {T:List SV} {H:List C} {F:HProp} {a:Act} {w:World} (h:AD plan σ T H) (hm:cD σ F a w):cD ⟨T,H⟩ F a w:=
 ⟨by rw[hm.1,h.1],hm.2.1,qP h.2.1 h.2.2.2 h.2.2.1 hm.2.2⟩
theorem AN {P:Program} {F:HProp} (hm:P.follows .mixedOrders=true) (hf:∀o base,eG P o (f o base)) (hnd:∀o base,nd o=false→∀β β',f o base β=f o base β') (hCK:CK=fM) (hPV:PV=gD) (hx:∀o base,pv o=true→cE P F o (xo o base)) (hST:ST=KV P F):
  jU f nf nd CK ST PV pv xo:=by
 intro body α T H m x₀ plan K σ hok h0 hbody;rw[hST];intro Q a w hout hQ hmo;refine wp_loop_ghost (fun n a w=>∃x j,m x=n∧cD ⟨T x j,H x⟩ F a w) (m x₀) ⟨x₀,_,rfl,oD h0 hmo⟩ ?_;rintro n a w ⟨x,j,rfl,hmo⟩
 let LP:Ex→St Pay→Prop:=fun e σ'=>match e with
  |.normal=>∃y plan,m y<m x∧AD plan σ' (T y (bE σ'.tmps)) (H y)|.exit id=>K (.exit id) σ'|.ret=>K .ret σ'
 have hE:=hbody x j LP ⟨w,F,hmo.2.2⟩ (fun y plan σ' h1 h2=>⟨y,plan,h1,h2⟩) (fun id σ' h=>h) (fun σ' h=>h);refine lQ f nf nd CK ST PV pv xo hm hf hnd hCK hPV hx hST body _ _ hok hE _ a w trivial (fun e σ' a w hk hmo=>?_) hmo
 ·cases e with
  |normal=>obtain⟨y,plan,h1,h2⟩:=hk;exact⟨m y,h1,y,_,rfl,oD h2 hmo⟩
  |exit id=>exact hQ _ _ _ _ hk hmo|ret=>exact hQ _ _ _ _ hk hmo
def rnd (body:Code):Nat→St Pay→(Ex→St Pay→Prop)→Prop
 |0,_,_=>False|n+1,σ,K=>nS f nf nd CK ST PV pv xo body σ fun e σ'=>match e with
  |.normal=>rnd body n σ' K|.exit id=>K (.exit id) σ'|.ret=>K .ret σ'
def gW:Prop:=∀(n:Nat) {body:Code} {σ:St Pay} {K:Ex→St Pay→Prop},dD body=true→rnd f nf nd CK ST PV pv xo body n σ K→ST (.loop body) σ K
theorem xQ {P:Program} {F:HProp} (hm:P.follows .mixedOrders=true) (hf:∀o base,eG P o (f o base)) (hnd:∀o base,nd o=false→∀β β',f o base β=f o base β') (hCK:CK=fM) (hPV:PV=gD) (hx:∀o base,pv o=true→cE P F o (xo o base)) (hST:ST=KV P F):
  gW f nf nd CK ST PV pv xo:=by
 intro n body σ K hok h;rw[hST];intro Q a w hout hQ hmo;refine wp_loop_rounds n ?_;induction n generalizing σ a w with
 |zero=>exact h.elim|succ n ih=>
  rw[rounds_succ];refine lQ f nf nd CK ST PV pv xo hm hf hnd hCK hPV hx hST body _ _ hok h _ a w trivial (fun e σ' a w hk hmo=>?_) hmo
  ·cases e with
   |normal=>exact ih hk _ _ hmo|exit id=>exact hQ _ _ _ _ hk hmo|ret=>exact hQ _ _ _ _ hk hmo
end
section
variable {P:Program}
def tC (P:Program) (n:FuncId):Prop:=∃fn,P.funcs[n]?=some fn∧fn.body.isSome=true∧fn.name≠ "runtime.NumGoroutine"
def inS (P:Program) (F:HProp) (n:FuncId) (args:List SV) (heap:List C) (K:SV→List C→Prop):Prop:=
 tC P n∧∀w,sat w (star (big heap) F)→Calls P n (SV.dens args).toArray w fun e w'=>False∨∃v hp,K v hp∧e=.returned v.den∧sat w' (star (big hp) F)
theorem inS.mono {F:HProp} {n:FuncId} {args:List SV} {heap:List C} {K K':SV→List C→Prop} (h:inS P F n args heap K) (hk:∀v hp,K v hp→K' v hp):inS P F n args heap K':=
 ⟨h.1,fun w hs=>(h.2 w hs).mono fun e w' hR=>hR.imp id fun⟨v,hp,h1,h2⟩=>⟨v,hp,hk _ _ h1,h2⟩⟩
theorem inS.view {F:HProp} {n:FuncId} {args args':List SV} {heap heap':List C} {K:SV→List C→Prop} (h:inS P F n args' heap' K) (ha:SV.dens args=SV.dens args')
  (hh:∀w,sat w (star (big heap) F)→sat w (star (big heap') F)):inS P F n args heap K:=
 ⟨h.1,fun w hs=>by rw[ha];exact h.2 w (hh w hs)⟩
variable (MT:nC) (rs:List (gV P Pay)) (IN:FuncId→List SV→List C→(SV→List C→Prop)→Prop)
def LR (r:gV P Pay) (as:List SV) (base:Nat) (σ:St Pay) (K:SV→List C→Prop):Prop:=
 ∀β,(r.app as base β).goK σ [] fun d _=>d.obl∧match d.fact with
  |none=>K d.res (puts d.ws σ.heap)|some p=>p→K d.res (puts d.ws σ.heap)
def tG (base:Nat) (c:Call) (σ:St Pay) (K:SV→List C→Prop):Prop:=match c.callee with
 |.value f=>(ev f).goK σ [] fun v _=>match v with
  |.fn (.func n) first cap=>(E1 c.args.toList).goK σ [] fun as _=>IN n (first++as++cap) σ.heap K
  |_=>False
 |.invoke recv m=>(ev recv).goK σ [] fun v _=>match v with
  |.ifc t x=>match MT.find t m with
   |some f=>(E1 c.args.toList).goK σ [] fun as _=>match cN f rs with
    |some r=>LR r (x::as) base σ K|none=>IN f (x::as) σ.heap K
   |none=>False
  |_=>False
 |_=>False
theorem BM {F:HProp} {f:FuncId} {r:gV P Pay} (hr:r.f=f) (hF:tC P f) {as:List SV} {base:Nat} {σ:St Pay} {K:SV→List C→Prop} (h:LR r as base σ K):inS P F f as σ.heap K:=by
 refine⟨hF,fun w hs=>?_⟩;subst hr;have key:∀β,∃d,(r.app as base β).val σ=some d∧d.obl∧(d.factP→K d.res (puts d.ws σ.heap)):=by
  intro β;have h1:=h β;rw[bO] at h1;obtain⟨d,l,e,ho,hk⟩:=h1;refine⟨d,aR e,ho,fun hf=>?_⟩;unfold Delta.factP at hf;cases e2:d.fact with
  |none=>rw[e2] at hk;exact hk|some p=>rw[e2] at hk hf;exact hk hf
 refine(r.ok as base σ F w hs fun β=>let ⟨d,h1,h2,_⟩:=key β;⟨d,h1,h2⟩).mono fun e w' hR=>?_;rcases hR with h1|⟨β,d,h1,h2,h3,h4⟩
 ·exact .inl h1
 ·obtain⟨d',e1,_,e3⟩:=key β;rw[h1] at e1;cases e1;exact .inr ⟨_,_,e3 h2,h3,h4⟩
theorem mL {n:FuncId}:∀{rs:List (gV P Pay)} {r:gV P Pay},cN n rs=some r→r∈rs
 |[],r,h=>by cases h
 |s::rs,r,h=>by
  simp only[cN] at h;split at h
  ·cases h;exact List.mem_cons_self ..
  ·exact List.mem_cons_of_mem _ (mL h)
theorem rX {F:HProp} (hIN:IN=inS P F) (hM:∀x∈MT,mOk P x) (hfn:∀r:gV P Pay,r∈rs→tC P r.f) (o:Oper) (base:Nat) (c:Call) (ho:o.op=.call c):cE P F o (tG MT rs IN base c):=by
 intro σ a w next Q K hm h hout hk
 subst hIN;obtain⟨callee,args,ts⟩:=c;have fin:∀(n:FuncId) (as:List SV),(execOp a.eval o).run P w=.ok (.enter n (SV.dens as).toArray) w→inS P F n as σ.heap K→o.wp P a w next Q:=by
  intro n as hrun hin;unfold Oper.wp;rw[hrun];simp only[Oper.upon];refine(hin.2 w hm.2.2).mono fun e w' hR=>?_;rcases hR with hF|⟨v,hp,h1,rfl,h3⟩
  ·exact hF.elim
  ·exact hk v hp w' h1 h3
 cases callee with
 |value f=>
  simp only[tG,bO] at h;obtain⟨v,l,h1,h2⟩:=h;have e:=aK hm (aR h1);split at h2
  ·rename_i n first cap
   obtain⟨as,l,h3,hin⟩:=h2;have e2:=gH hm (aR h3);left;refine fin n (first++as++cap) ?_ hin;obtain⟨fn,hf1,hf2,hf3⟩:=hin.1;obtain⟨body,hb⟩:=Option.isSome_iff_exists.1 hf2;have hargs:(args.map a.eval)=(SV.dens as).toArray:=by apply Array.ext';simp[e2]
   have hf3':(fn.name== "runtime.NumGoroutine")=false:=by simpa using hf3
   simp only[execOp,ho,resolve,hargs,e,SV.den,Deferred.ofValue];simp only[Sem.run_bind,Sem.run_pure,Result.andThen_ok,invoke,callFunc,run_program,hf1];simp only[hf3',Bool.false_eq_true,if_false,hb,Option.isNone_some,Sem.run_pure];congr 2;simp[cH]
  ·exact h2.elim
 |invoke recv name=>
  simp only[tG,bO] at h;obtain⟨v,l,h1,h2⟩:=h;have e:=aK hm (aR h1);split at h2
  ·rename_i t x;split at h2
   ·rename_i f hf;obtain⟨as,l,h3,hin⟩:=h2;have e2:=gH hm (aR h3);have hin:inS P F f (x::as) σ.heap K:=by
     split at hin
     ·rename_i r hr;have hrf:=iJ hr;exact BM hrf (hrf▸hfn r (mL hr)) hin
     ·exact hin
    left;refine fin f (x::as) ?_ hin;obtain⟨fn,hf1,hf2,hf3⟩:=hin.1;obtain⟨body,hb⟩:=Option.isSome_iff_exists.1 hf2;have hargs:(args.map a.eval)=(SV.dens as).toArray:=by apply Array.ext';simp[e2]
    obtain⟨i,m,el,m1,m2,m3,m4,m5⟩:=hM _ (nC.find_mem hf);have hf3':(fn.name== "runtime.NumGoroutine")=false:=by simpa using hf3
    have hmeth:∀n,(method (n+1) t x.den name).run P w=.ok (f,x.den) w:=by intro n;simp only at m1 m2 m3 m4 m5;simp only[method,typeInfo,Sem.run_bind,run_program,Result.andThen_ok,m1,Sem.run_pure,m2,m3,follow,m4];simp only[receiverAt,Sem.run_bind,run_underlying m5,Result.andThen_ok,Place.get,Sem.run_pure]
    simp only[execOp,ho,resolve,hargs,e,SV.den];have hdep:0<Made.depth:=by decide
    obtain⟨n,hn⟩:∃n,P.types.size+Made.depth=n+1:=⟨P.types.size+Made.depth-1,by omega⟩;have hm2:=hmeth n;have h0:∀v:Value,(#[v]++(SV.dens as).toArray)[0]?=some v:=by intro v;simp
    have hex:∀v:Value,(#[v]++(SV.dens as).toArray).extract 1 (#[v]++(SV.dens as).toArray).size=(SV.dens as).toArray:=by intro v;apply Array.ext';simp
    simp only[Sem.run_bind,Sem.run_pure,Result.andThen_ok,invoke,h0,hex,callMethod,run_program,hn,hm2,callFunc,hf1,hf3',Bool.false_eq_true,if_false,hb,Option.isNone_some,Sem.run_pure];congr 2;apply Array.ext';simp[SV.dens]
   ·exact h2.elim
  ·exact h2.elim
 |builtin b=>exact h.elim
end
end Go.Sx
namespace Go.Sx
open Go Go.MapKept
abbrev MQ:=List (Int×Nat×Option (List SV))
structure MF where
 mem:Int→List Int→Bool
 ins:Int→List Int→List Int
 kq:MQ→List Int
 adq:MQ→Int→Nat→MQ
 ln:List Int→Nat
 st:List Int→Nat→Int→List Int
 rep:Nat→List Int
 sn:List Int→Int→List Int
 tk:List Int→Nat→List Int
 by':List UInt8→List Int
 op:MQ→Int→Nat→MQ→MQ
def bC:MF:=⟨fun k l=>l.contains k,fun k l=>if l.contains k then l else l++[k],keysq,fun l k b=>l++[(k,b,none)],fun l=>l.length,fun l j v=>l.set j v,fun n=>List.replicate n 0,fun l v=>l++[v],fun l n=>l.take n,fun l=>l.map fun c=>(c.toNat:Int),fun l1 n b l2=>l1++(n,b,none)::l2⟩
theorem KU {mem:Int→List Int→Bool} {ins:Int→List Int→List Int} {kq:MQ→List Int} {adq:MQ→Int→Nat→MQ} {ln:List Int→Nat} {st:List Int→Nat→Int→List Int} {rep:Nat→List Int} {sn:List Int→Int→List Int} {tk:List Int→Nat→List Int} {bi:List UInt8→List Int} {op:MQ→Int→Nat→MQ→MQ}
  (h:MF.mk mem ins kq adq ln st rep sn tk bi op=bC):mem=(fun k l=>l.contains k)∧ins=(fun k l=>if l.contains k then l else l++[k])∧kq=keysq∧adq=(fun l k b=>l++[(k,b,none)])∧ln=(fun l=>l.length)∧st=(fun l j v=>l.set j v)∧rep=(fun n=>List.replicate n 0)∧sn=(fun l v=>l++[v])∧tk=(fun l n=>l.take n)∧bi=(fun l=>l.map fun c=>(c.toNat:Int))∧op=fun l1 n b l2=>l1++(n,b,none)::l2:=by
 cases h;exact⟨rfl,rfl,rfl,rfl,rfl,rfl,rfl,rfl,rfl,rfl,rfl⟩
section
variable {P:Program}
variable (TT:TypeId→Option TyI) (MM:MF)
def M0 (ok:Bool) (v:SV) (b:Bool):SV:=match ok with
 |true=>.tup [v,.bl b]|false=>v
def NQ:TypeId→Bool:=fun t=>match TT t with
 |some ⟨n,g,_,.struct []⟩=>match n with
  |0=>g|_=>false
 |_=>false
def qN (b:Nat) (k e:TypeId):Pay:=match TT k with
 |some ⟨_,_,_,.int .u64⟩=>match TT e with
  |some ⟨_,_,_,.ptr T⟩=>.mp b (.ptrs T []) none|_=>match NQ TT e with
   |true=>.mp b (.set []) none|false=>.h (dL b)
 |_=>.h (dL b)
def qC (t:TypeId) (r:Option Operand) (σ:St Pay) (K:SV→List C→Prop):Prop:=match TT t with
 |some ⟨_,_,_,.map k e⟩=>match r with
  |none=>∀b:Nat,K (.hv σ.heap.length (.map (some b))) (σ.heap++[.prd (qN TT b k e)])|some x=>(ev x).goK σ [] fun v _=>match v with
   |.i _ _=>∀b:Nat,K (.hv σ.heap.length (.map (some b))) (σ.heap++[.prd (qN TT b k e)])|_=>False
 |_=>False
def tB (t:TypeId) (x i:Operand) (ok:Bool) (σ:St Pay) (K:SV→List C→Prop):Prop:=match TT t with
 |some ⟨_,_,_,.map kt et⟩=>match TT kt with
  |some ⟨_,_,_,.int .u64⟩=>match TT et with
   |some ⟨_,_,z,_⟩=>(ev x).goK σ [] fun v _=>(ev i).goK σ [] fun iv _=>match iv with
    |.i .u64 n=>match v with
     |.hv p (.map (some b))=>match σ.heap.getD p .nil with
      |.prd (.mp b' kd it)=>b=b'∧match kd with
       |.set l=>match z with
        |.agg []=>K (M0 ok (.agg []) (MM.mem n l)) σ.heap|_=>False
       |.ptrs T l=>match z with
        |.v (.pointer none)=>(∀l1 blk cs l2,l=l1++(n,blk,some cs)::l2→K (M0 ok (.ptr σ.heap.length blk 0) true) (σ.heap.set p (.prd (.mp b' (.ptrs T (MM.op l1 n blk l2)) it))++[.raw true blk T cs]))∧
         (∀l1 blk l2,l=l1++(n,blk,none)::l2→K (M0 ok (.v (.pointer (some ⟨blk,0,none⟩))) true) σ.heap)∧
         ((∀x∈l,x.1≠n)→K (M0 ok (.v (.pointer none)) false) σ.heap)
        |_=>False
      |_=>False
     |.v (.map none)=>K (M0 ok z false) σ.heap|_=>False
    |_=>False
   |none=>False
  |_=>False
 |_=>False
def tW (t:TypeId) (x i y:Operand) (σ:St Pay) (K:SV→List C→Prop):Prop:=match TT t with
 |some ⟨_,_,_,.map kt et⟩=>match TT kt with
  |some ⟨_,_,_,.int .u64⟩=>(ev x).goK σ [] fun v _=>(ev i).goK σ [] fun iv _=>(ev y).goK σ [] fun yv _=>match iv with
    |.i .u64 n=>match v with
     |.hv p (.map (some b))=>match σ.heap.getD p .nil with
      |.prd (.mp b' kd it)=>b=b'∧match kd with
       |.set l=>match yv with
        |.agg []=>K (.v undef) (σ.heap.set p (.prd (.mp b' (.set (MM.ins n l)) none)))|_=>False
       |.ptrs T l=>match yv with
        |.ptr _ blk 0=>(∀x∈l,x.1≠n)∧K (.v undef) (σ.heap.set p (.prd (.mp b' (.ptrs T (MM.adq l n blk)) none)))|_=>False
      |_=>False
     |_=>False
    |_=>False
  |_=>False
 |_=>False
def EQ:MK→List Int
 |.set l=>l|.ptrs _ l=>MM.kq l
def wN (t:TypeId) (x:Operand) (σ:St Pay) (K:SV→List C→Prop):Prop:=match TT t with
 |some ⟨_,_,_,.map kt et⟩=>(ev x).goK σ [] fun v _=>match v with
  |.hv p (.map (some b))=>match σ.heap.getD p .nil with
   |.prd (.mp b' kd it)=>b=b'∧∀r:Nat,K (.ptr p r 0) (σ.heap.set p (.prd (.mp b' kd (some (r,none,EQ MM kd)))))|_=>False
  |.v (.map none)=>∀r:Nat,K (.ptr σ.heap.length r 0) (σ.heap++[.prd (.ri r)])|_=>False
 |_=>False
def CJ (x:Operand) (str:Bool) (σ:St Pay) (K:SV→List C→Prop):Prop:=match str with
 |true=>False|false=>(ev x).goK σ [] fun v _=>match v with
  |.ptr p r 0=>match σ.heap.getD p .nil with
   |.prd (.mp b kd (some (r',cur,left)))=>r=r'∧(left=[]→K (.tup [.bl false]) σ.heap)∧
     ∀(n:Int) (left':List Int) (y:Value),left.Perm (n::left')→K (.tup [.bl true,.i .u64 n,.v y]) (σ.heap.set p (.prd (.mp b kd (some (r',some n,left')))))
   |.prd (.ri r')=>r=r'∧K (.tup [.bl false]) σ.heap|_=>False
  |_=>False
def xN (x:Operand) (σ:St Pay) (K:SV→List C→Prop):Prop:=(ev x).goK σ [] fun v _=>match v with
 |.ptr p r 0=>match σ.heap.getD p .nil with
  |.prd (.mp b kd (some (r',some n,left)))=>r=r'∧match kd with
   |.set l=>K (.tup [.i .u64 n,.agg []]) σ.heap|.ptrs T l=>(∀l1 blk cs l2,l=l1++(n,blk,some cs)::l2→K (.tup [.i .u64 n,.ptr σ.heap.length blk 0]) (σ.heap.set p (.prd (.mp b (.ptrs T (MM.op l1 n blk l2)) (some (r',some n,left))))++[.raw true blk T cs]))∧
     (∀l1 blk l2,l=l1++(n,blk,none)::l2→K (.tup [.i .u64 n,.v (.pointer (some ⟨blk,0,none⟩))]) σ.heap)
  |_=>False
 |_=>False
def MY (x:Operand) (σ:St Pay) (K:SV→List C→Prop):Prop:=(ev x).goK σ [] fun v _=>match v with
 |.hv p (.map (some b))=>match σ.heap.getD p .nil with
  |.prd (.mp b' kd it)=>b=b'∧K (.i .i64 (Int.ofNat (MM.ln (EQ MM kd)))) σ.heap|_=>False
 |.v (.map none)=>K (.lit .i64 0) σ.heap|_=>False
theorem fJ (L:List C) (c:C):big (L++[c])=star c.den (big L):=by rw[bF,fV];simp only[big,aO]
theorem iO {w:World} {b:Nat} {k:MK} {it:Option (Nat×Option Int×List Int)} {A:HProp} (h:sat w (star (dA b k it) A)):∃es clock,oU es clock k∧w.heap[b]?=some (.map es clock)∧
  sat w (star (pts (b,none) (.ob (.map es clock))) (star k.own (star (iS b es clock it) A))):=by
 rw[dA,aL] at h;obtain⟨⟨es,clock⟩,h⟩:=h;simp only[aA] at h;obtain⟨h1,h⟩:=aB.1 h;exact⟨es,clock,h1,(iD h).1,h⟩
theorem qD {w:World} {b:Nat} {k:MK} {es:Array MapEntry} {clock:Nat} {A:HProp} (h1:oU es clock k) (h:sat w (star (pts (b,none) (.ob (.map es clock))) (star k.own A))):sat w (star (dA b k none) A):=by rw[dA,aL];refine⟨(es,clock),?_⟩;simp only[aA,iS,aH];exact aB.2 ⟨h1,h⟩
theorem zH {w:World} {b:Nat} {k:MK} {es:Array MapEntry} {clock r:Nat} {cur:Option Int} {left:List Int} {seen:Array Nat} {A:HProp} (h1:oU es clock k) (h2:RgOk es seen cur left)
  (h:sat w (star (pts (b,none) (.ob (.map es clock))) (star k.own (star (pts (r,none) (.ob (.mapIter (some b) clock seen clock))) A)))):sat w (star (dA b k (some (r,cur,left))) A):=by
 rw[dA,aL];refine⟨(es,clock),?_⟩;simp only[aA];refine aB.2 ⟨h1,?_⟩;refine aI (A:=star (iS b es clock (some (r,cur,left))) (star (pts (b,none) (.ob (.map es clock))) (star k.own A))) ?_ (by ac_rfl);rw[iS,aL];refine⟨seen,?_⟩;rw[aA];exact aB.2 ⟨h2,aI h (by ac_rfl)⟩
theorem D6 (k:MK) (h:k.keys=[]) (h2:k.m=[]):oU #[] 0 k:=⟨by rw[h2];exact List.Perm.refl _,by simp[h],by simp,by simp⟩
theorem l7 {es:Array MapEntry} {clock:Nat} {k:MK} (h:oU es clock k):(es.toList.map (·.key)).Perm (k.keys.map (Value.int .u64)):=by
 have e1:(k.m.map Prod.fst)=k.keys.map (Value.int .u64):=by
  clear h;cases k with
  |set l=>simp[MK.m,MK.keys]|ptrs T l=>
   simp only[MK.m,MK.keys,List.map_map];induction l with
   |nil=>rfl|cons x r ih=>simpa [keysq] using ih
 have e2:=h.m.map Prod.fst;rw[e1] at e2;simpa [List.map_map,Function.comp_def] using e2
theorem NT {es:Array MapEntry} {clock:Nat} {k:MK} (h:oU es clock k):∀e∈es.toList,IsKey (.int .u64) e.key:=by intro e he;have:e.key∈k.keys.map (Value.int .u64):=(l7 h).mem_iff.1 (List.mem_map.2 ⟨e,he,rfl⟩);obtain⟨n,_,e2⟩:=List.mem_map.1 this;rw[←e2];trivial
theorem aW {o:Oper} {a:Act} {w w':World} {next:Act→World→Prop} {Q:Exit→Act→World→Prop} {v:SV} (hrun:(execOp a.eval o).run P w=.ok (.value v.den) w') (h:next (a.put o.dst v.den) w'):
  o.wp P a w next Q∨(o.asks P a w∧LetsOut Q):=by
 left;unfold Oper.wp;rw[hrun];exact h
theorem l5 {o:Oper} {a:Act} {w w':World} {next:Act→World→Prop} {Q:Exit→Act→World→Prop} (hrun:(execOp a.eval o).run P w=.ok .skip w') (h:next (a.put o.dst (SV.v undef).den) w'):
  o.wp P a w next Q∨(o.asks P a w∧LetsOut Q):=by
 left;unfold Oper.wp;rw[hrun];exact h
variable {AR:lT→IntKind→Int→Int→Int} {CM:mU→Int→Int→Bool} {SE:ByteArray→ByteArray→Bool}
theorem wU (b:Nat) (k e:TypeId) {w:World} {A:HProp} (h:sat w (star (pts (b,none) (.ob (.map #[] 0))) A)):sat w (star ((Cel.prd (qN TT b k e):C).den) A):=by
 have any:sat w (star (dL b) A):=by rw[dL,aL];exact⟨(#[],0),h⟩
 have one:∀k:MK,k.keys=[]→k.m=[]→k.own=emp→sat w (star (dA b k none) A):=fun k h1 h2 h3=>qD (D6 k h1 h2) (by rw[h3,aH];exact h);unfold qN;split
 ·split
  ·exact one _ rfl rfl rfl
  ·split
   ·exact one _ rfl rfl rfl
   ·exact any
 ·exact any
theorem uK (hS:Std P TT AR CM SE) {F:HProp} (o:Oper) (t:TypeId) (r:Option Operand) (ho:o.op=.makeMap t r):cE P F o (qC TT t r):=by
 intro σ a w next Q K hm h hout hk
 unfold qC at h;split at h
 ·rename_i n g z k e ht;have hu:=(aS (hS.tt _ _ ht).kind).2.2.1 k e rfl;have fin:(∀b:Nat,K (.hv σ.heap.length (.map (some b))) (σ.heap++[.prd (qN TT b k e)]))→(Instr.makeMap t (r.map a.eval)).run P w=.ok (.map (some w.heap.size)) {w with heap:=w.heap.push (.map #[] 0)}→
    o.wp P a w next Q∨(o.asks P a w∧LetsOut Q):=by
   intro hK hrun;refine aW (v:=.hv σ.heap.length (.map (some w.heap.size))) (w':={w with heap:=w.heap.push (.map #[] 0)}) (by simp only[execOp,ho,Sem.run_bind,hrun,Result.andThen_ok,Sem.run_pure,SV.den]) (hk _ _ _ (hK w.heap.size) ?_);rw[fJ,aA];exact wU TT _ _ _ (jF _ rfl hm.2.2)
  split at h
  ·exact fin h rfl
  ·rename_i x;rw[bO] at h;obtain⟨v,l,h1,h2⟩:=h;have e1:=aK hm (aR h1);split at h2
   ·rename_i kk nn;refine fin h2 ?_;simp[Instr.makeMap,run_underlying hu,e1,SV.den,newObj,Sem.run];rfl
   ·exact h2.elim
 ·exact h.elim
theorem nN {es:Array MapEntry} {clock:Nat} {k:MK} (hE:oU es clock k) (n:Int):
  (∃j v e,Instr.findNow (.int .u64) (.int .u64 n) es.toList 0=some (some (j,v))∧es[j]?=some e∧e.key=.int .u64 n∧e.val=v∧(Value.int .u64 n,v)∈k.m∧n∈k.keys)∨
  (Instr.findNow (.int .u64) (.int .u64 n) es.toList 0=some none∧n∉k.keys):=by
 have hk:=l7 hE;rcases findNow_spec (d:=.int .u64) (k:=.int .u64 n) rfl es.toList 0 (NT hE) with ⟨h1,h2⟩|⟨j,e,h1,h2,h3⟩
 ·right;refine⟨h1,fun hn=>?_⟩;have:Value.int .u64 n∈es.toList.map (·.key):=hk.mem_iff.2 (List.mem_map.2 ⟨n,hn,rfl⟩);obtain⟨e,he,e2⟩:=List.mem_map.1 this;exact h2 e he e2
 ·left;have hmem:e∈es.toList:=List.mem_of_getElem? h2;refine⟨j,e.val,e,by simpa using h1,by simpa using h2,h3,rfl,?_,?_⟩
  ·rw[←h3];exact hE.m.mem_iff.1 (List.mem_map.2 ⟨e,hmem,rfl⟩)
  ·have:e.key∈k.keys.map (Value.int .u64):=hk.mem_iff.1 (List.mem_map.2 ⟨e,hmem,rfl⟩);rw[h3] at this;obtain⟨m,hm,e2⟩:=List.mem_map.1 this;cases e2;exact hm
theorem uC {es:Array MapEntry} {clock:Nat} {w:World} {b:Nat} {t kt et:TypeId} {ok:Bool} {x:Int} {z:Value} (hu:P.underlying t=some (.map kt et)) (hk:P.underlying kt=some (.int .u64)) (hz:(zeroValue et).run P w=.ok z w)
  (hb:w.heap[b]?=some (.map es clock)) {r:Option (Nat×Value)} (hf:Instr.findNow (.int .u64) (.int .u64 x) es.toList 0=some r):
  (Instr.lookup t (.map (some b)) (.int .u64 x) ok).run P w=.ok (match r with
   |some (_,v)=>if ok then .tuple #[v,.bool true] else v
   |none=>if ok then .tuple #[z,.bool false] else z) w:=by
 have hck:∀e,(Instr.checkKey e 10000 kt (.int .u64 x)).run P w=.ok () w:=fun e=>run_checkKey (n:=9999) hk (by rfl) e;have hfk:(Instr.findKey kt (.int .u64 x) es.toList).run P w=.ok r w:=run_findKey hk hf;simp only[Instr.lookup,Sem.run_bind,run_underlying hu,Result.andThen_ok,MapKept.run_getObj_map hb,Sem.run_pure,hck,hfk];cases r with
 |none=>simp only[Sem.run_bind,hz,Result.andThen_ok,Sem.run_pure]|some y=>obtain⟨j,v⟩:=y;simp only[Sem.run_pure,Result.andThen_ok];cases ok<;>rfl
theorem kU (ok:Bool) (v:SV) (b:Bool):(M0 ok v b).den=if ok then .tuple #[v.den,.bool b] else v.den:=by cases ok<;>simp[M0,SV.den,SV.dens]
theorem bX (x y:MQ):keysq (x++y)=keysq x++keysq y:=by
 induction x with
 |nil=>rfl|cons a x ih=>simp[keysq,ih]
theorem jN (T:TypeId) (x y:MQ):fR T (x++y)=star (fR T x) (fR T y):=by
 induction x with
 |nil=>simp[fR,aH]|cons a x ih=>simp[fR,ih,aA]
theorem kR {l:MQ} {n:Int} (h:n∈keysq l):∃l1 blk c l2,l=l1++(n,blk,c)::l2:=by
 induction l with
 |nil=>simp[keysq] at h|cons x r ih=>
  simp only[keysq,List.mem_cons] at h;rcases h with rfl|h
  ·exact⟨[],x.2.1,x.2.2,r,rfl⟩
  ·obtain⟨l1,blk,c,l2,e⟩:=ih h;exact⟨x::l1,blk,c,l2,by rw[e];rfl⟩
theorem A8 {l:MQ} {n:Int} (h:n∉keysq l):∀x∈l,x.1≠n:=by
 induction l with
 |nil=>simp|cons x r ih=>
  simp only[keysq,List.mem_cons,not_or] at h;intro y hy;rcases List.mem_cons.1 hy with rfl|hy
  ·exact fun e=>h.1 e.symm
  ·exact ih h.2 y hy
theorem mZ {es:Array MapEntry} {clock:Nat} {T:TypeId} {l1 l2:MQ} {n:Int} {blk:Nat} {c d:Option (List SV)} (h:oU es clock (.ptrs T (l1++(n,blk,c)::l2))):oU es clock (.ptrs T (l1++(n,blk,d)::l2)):=
 ⟨h.m.trans (by simp[MK.m]),by have:=h.nd;simp only[MK.keys,bX,keysq] at this⊢;exact this,h.nb,h.lt⟩
theorem pY (T:TypeId) (l1 l2:MQ) (n:Int) (blk:Nat) (cs:List SV):
  (MK.ptrs T (l1++(n,blk,some cs)::l2)).own=star ((Cel.raw true blk T cs:C).den) (MK.ptrs T (l1++(n,blk,none)::l2)).own:=by
 simp only[MK.own,jN,fR,aH,Cel.den];ac_rfl
theorem uO {T:TypeId} {l1 l2:MQ} {n:Int} {blk:Nat} {c:Option (List SV)} {v:Value} (hn:(keysq (l1++(n,blk,c)::l2)).Nodup) (h:(Value.int .u64 n,v)∈(MK.ptrs T (l1++(n,blk,c)::l2)).m):v=.pointer (some ⟨blk,0,none⟩):=by
 simp only[MK.m,List.map_append,List.map_cons,List.mem_append,List.mem_cons,List.mem_map,Prod.mk.injEq,Value.int.injEq] at h;rw[bX,keysq] at hn;have hmk:∀(l:MQ) (x:Int×Nat×Option (List SV)),x∈l→x.1∈keysq l:=by
  intro l;induction l with
  |nil=>intro x hx;cases hx|cons y l ih=>
   intro x hx;simp only[keysq,List.mem_cons];rcases List.mem_cons.1 hx with rfl|hx
   ·exact .inl rfl
   ·exact .inr (ih x hx)
 rcases h with ⟨x,hx,⟨_,e⟩,_⟩|⟨_,e⟩|⟨x,hx,⟨_,e⟩,_⟩
 ·have:=hmk _ _ hx;rw[e] at this;exact absurd rfl ((List.nodup_append.1 hn).2.2 n this n (List.mem_cons_self ..))
 ·exact e
 ·have:=hmk _ _ hx;rw[e] at this;exact absurd this (List.nodup_cons.1 (List.nodup_append.1 hn).2.1).1
theorem xB (hMM:MM=bC) (hS:Std P TT AR CM SE) {F:HProp} (o:Oper) (t:TypeId) (x i:Operand) (ok:Bool) (ho:o.op=.lookup t x i ok):cE P F o (tB TT MM t x i ok):=by
 intro σ a w next Q K hm h hout hk
 subst hMM;unfold tB at h;split at h
 ·rename_i _ _ _ kt et ht;have hu:=(aS (hS.tt _ _ ht).kind).2.2.1 kt et rfl;split at h
  ·rename_i hkt;have huk:=(aS (hS.tt _ _ hkt).kind).2.2.2.2.2.2.2.1 _ rfl;split at h
   ·rename_i zz hzt;have hz:=(hS.tt _ _ hzt).run_zero w;simp only[bO] at h;obtain⟨v,l,h1,iv,l',h2,h3⟩:=h;have e1:=aK hm (aR h1);have e2:=aK hm (aR h2);have run:∀(rv:SV),(Instr.lookup t v.den iv.den ok).run P w=.ok rv.den w→(execOp a.eval o).run P w=.ok (.value rv.den) w:=by
     intro rv hr;simp only[execOp,ho,e1,e2,Sem.run_bind,hr,Result.andThen_ok,Sem.run_pure]
    split at h3
    ·rename_i n;split at h3
     ·rename_i p b;split at h3
      ·rename_i b' kd it hc;obtain⟨rfl,h3⟩:=h3;have hs:=hm.2.2;rw[fD hc,aA] at hs;obtain⟨es,clock,hE,hb,hs2⟩:=iO hs;rcases nN hE n with ⟨j,v,e,f1,f2,f3,f4,f5,f6⟩|⟨f1,f2⟩
       ·have hrl:=uC (ok:=ok) hu huk hz hb f1;simp only at hrl;split at h3
        ·rename_i l;split at h3
         case h_2=>exact h3.elim
         have hv:v=.agg #[]:=by simp only[MK.m,List.mem_map,Prod.mk.injEq] at f5;obtain⟨_,_,_,e⟩:=f5;exact e.symm
         have hmem:bC.mem n l=true:=by simpa [bC,MK.keys] using f6
         rw[hmem] at h3;exact aW (run _ (by rw[kU];rw[hv] at hrl;simpa [SV.den,SV.dens] using hrl)) (hk _ _ _ h3 hm.2.2)
        ·rename_i T l;split at h3
         case h_2=>exact h3.elim
         obtain⟨l1,blk,c,l2,rfl⟩:=kR f6;have hv:=uO hE.nd f5;cases c with
         |some cs=>
          refine aW (run _ (by rw[kU];rw[hv] at hrl;simpa [SV.den] using hrl)) (hk _ _ _ (h3.1 l1 blk cs l2 rfl) ?_);rw[fJ,dJ hc (by simp)];simp only[aA];rw[pY] at hs2;have hs3:sat w (star (dA b (MK.ptrs T (l1++(n,blk,none)::l2)) it) (star ((Cel.raw true blk T cs:C).den) (star (big (σ.heap.set p .nil)) F))):=by rw[dA,aL];refine⟨(es,clock),?_⟩;simp only[aA];exact aB.2 ⟨mZ hE,aI hs2 (by simp only[aA];ac_rfl)⟩
          exact aI hs3 (by show star (dA _ _ _) _=_;simp only[Cel.den,PayDen.den,bC];ac_rfl)
         |none=>exact aW (run _ (by rw[kU];rw[hv] at hrl;simpa [SV.den] using hrl)) (hk _ _ _ (h3.2.1 l1 blk l2 rfl) hm.2.2)
       ·have hrl:=uC (ok:=ok) hu huk hz hb f1;simp only at hrl;split at h3
        ·rename_i l;split at h3
         case h_2=>exact h3.elim
         have hmem:bC.mem n l=false:=by simpa [bC,MK.keys] using f2
         rw[hmem] at h3;exact aW (run _ (by rw[kU];simpa [SV.den,SV.dens] using hrl)) (hk _ _ _ h3 hm.2.2)
        ·rename_i T l;split at h3
         case h_2=>exact h3.elim
         exact aW (run _ (by rw[kU];simpa [SV.den,SV.dens] using hrl)) (hk _ _ _ (h3.2.2 (A8 f2)) hm.2.2)
      ·exact h3.elim
     ·refine aW (run _ ?_) (hk _ _ _ h3 hm.2.2);have hck:∀e,(Instr.checkKey e 10000 kt (.int .u64 n)).run P w=.ok () w:=fun e=>run_checkKey (n:=9999) huk (by rfl) e;have hfk:(Instr.findKey kt (.int .u64 n) []).run P w=.ok none w:=run_findKey huk rfl;simp only[SV.den,Instr.lookup,Sem.run_bind,run_underlying hu,Result.andThen_ok,Sem.run_pure,hck,hfk,hz];rw[kU]
     ·exact h3.elim
    ·exact h3.elim
   ·exact h.elim
  ·exact h.elim
 ·exact h.elim
theorem tJ (k:IntKind) (n:Int):Instr.sameBits 10000 (.int k n) (.int k n)=true:=by simp[Instr.sameBits]
theorem nX {es:Array MapEntry} {clock:Nat} {w:World} {b:Nat} {t kt et:TypeId} {n:Int} {v:Value} (hu:P.underlying t=some (.map kt et)) (hk:P.underlying kt=some (.int .u64))
  (hb:w.heap[b]?=some (.map es clock)) (hf:Instr.findNow (.int .u64) (.int .u64 n) es.toList 0=some none):
  (Instr.mapUpdate t (.map (some b)) (.int .u64 n) v).run P w=.ok () {w with heap:=w.heap.setIfInBounds b (.map (es.push {key:=.int .u64 n,val:=v,born:=clock}) (clock+1))}:=by
 have hck:∀e,(Instr.checkKey e 10000 kt (.int .u64 n)).run P w=.ok () w:=fun e=>run_checkKey (n:=9999) hk (by rfl) e;have hfk:(Instr.findKey kt (.int .u64 n) es.toList).run P w=.ok none w:=run_findKey hk hf;simp only[Instr.mapUpdate,Sem.run_bind,run_underlying hu,Result.andThen_ok,MapKept.run_getObj_map hb,hck,hfk,MapKept.run_setObj_map _ hb]
theorem uS {es:Array MapEntry} {clock:Nat} {w:World} {b j:Nat} {t kt et:TypeId} {n:Int} {v v':Value} {e:MapEntry} (hu:P.underlying t=some (.map kt et)) (hk:P.underlying kt=some (.int .u64))
  (hb:w.heap[b]?=some (.map es clock)) (hf:Instr.findNow (.int .u64) (.int .u64 n) es.toList 0=some (some (j,v'))) (hj:es[j]?=some e) (hek:e.key=.int .u64 n):
  (Instr.mapUpdate t (.map (some b)) (.int .u64 n) v).run P w=.ok () {w with heap:=w.heap.setIfInBounds b (.map (es.modify j fun e=>{e with key:=.int .u64 n,val:=v}) clock)}:=by
 have hck:∀e,(Instr.checkKey e 10000 kt (.int .u64 n)).run P w=.ok () w:=fun e=>run_checkKey (n:=9999) hk (by rfl) e;have hfk:(Instr.findKey kt (.int .u64 n) es.toList).run P w=.ok (some (j,v')) w:=run_findKey hk hf;simp only[Instr.mapUpdate,Sem.run_bind,run_underlying hu,Result.andThen_ok,MapKept.run_getObj_map hb,hck,hfk,hj,Option.map_some,Option.getD_some,hek,Instr.keyThatStays,tJ,if_true,Sem.run_pure,MapKept.run_setObj_map _ hb]
theorem rW {es:Array MapEntry} {clock:Nat} {k k':MK} {n:Int} {v:Value} (h:oU es clock k) (hm:k'.m=k.m++[(.int .u64 n,v)]) (hk:k'.keys=k.keys++[n]) (hn:n∉k.keys):
  oU (es.push {key:=.int .u64 n,val:=v,born:=clock}) (clock+1) k':=by
 refine⟨by rw[hm];simpa using h.m.append_right _,?_,?_,?_⟩
 ·rw[hk,List.nodup_append];exact⟨h.nd,by simp,fun a ha b hb e=>by simp at hb;subst hb;subst e;exact hn ha⟩
 ·simp only[Array.toList_push,List.map_append,List.map_cons,List.map_nil];rw[List.nodup_append];refine⟨h.nb,by simp,fun a ha b hb e=>?_⟩;simp at hb;subst hb;subst e;obtain⟨x,hx,e⟩:=List.mem_map.1 ha;have:=h.lt x hx;omega
 ·intro e he;simp only[Array.toList_push,List.mem_append,List.mem_singleton] at he;rcases he with he|rfl
  ·have:=h.lt e he;omega
  ·simp
theorem uE {es:Array MapEntry} {j:Nat} {e:MapEntry} {k v:Value} (hj:es[j]?=some e) (hk:e.key=k) (hv:e.val=v):(es.modify j fun e=>{e with key:=k,val:=v})=es:=by
 apply Array.ext_getElem?;intro i;rw[Array.getElem?_modify];split
 ·rename_i h;subst h;rw[hj];cases e;simp at hk hv;subst hk;subst hv;rfl
 ·rfl
theorem D3 {α:Type} {xs:Array α} {j:Nat} {x:α} (h:xs[j]?=some x):xs.setIfInBounds j x=xs:=by
 apply Array.ext_getElem?;intro i;rw[Array.getElem?_setIfInBounds];split
 ·rename_i h2;subst h2;obtain⟨hl,e⟩:=Array.getElem?_eq_some_iff.1 h;rw[if_pos hl,h]
 ·rfl
theorem wG (hMM:MM=bC) (hS:Std P TT AR CM SE) {F:HProp} (o:Oper) (t:TypeId) (x i y:Operand) (ho:o.op=.mapUpdate t x i y):cE P F o (tW TT MM t x i y):=by
 intro σ a w next Q K hm h hout hk
 subst hMM;unfold tW at h;split at h
 ·rename_i _ _ _ kt et ht;have hu:=(aS (hS.tt _ _ ht).kind).2.2.1 kt et rfl;split at h
  ·rename_i hkt;have huk:=(aS (hS.tt _ _ hkt).kind).2.2.2.2.2.2.2.1 _ rfl;simp only[bO] at h;obtain⟨v,l,h1,iv,l',h2,yv,l'',h3,h4⟩:=h;have e1:=aK hm (aR h1);have e2:=aK hm (aR h2);have e3:=aK hm (aR h3);have run:∀w',(Instr.mapUpdate t v.den iv.den yv.den).run P w=.ok () w'→(execOp a.eval o).run P w=.ok .skip w':=by
    intro w' hr;simp only[execOp,ho,e1,e2,e3,Sem.run_bind,hr,Result.andThen_ok,Sem.run_pure]
   split at h4
   ·rename_i n;split at h4
    ·rename_i p b;split at h4
     ·rename_i b' kd it hc;obtain⟨rfl,h4⟩:=h4;have hs:=hm.2.2;rw[fD hc,aA] at hs;obtain⟨es,clock,hE,hb,hs2⟩:=iO hs;have hs3:sat w (star (pts (b,none) (.ob (.map es clock))) (star kd.own (star (big (σ.heap.set p .nil)) F))):=
       (aI (B:=star (iS b es clock it) (star (pts (b,none) (.ob (.map es clock))) (star kd.own (star (big (σ.heap.set p .nil)) F)))) hs2 (by ac_rfl)).snd
      split at h4
      ·rename_i l;split at h4
       case h_2=>exact h4.elim
       rcases nN hE n with ⟨j,v,e,f1,f2,f3,f4,f5,f6⟩|⟨f1,f2⟩
       ·have hv:e.val=.agg #[]:=by
         simp only[MK.m,List.mem_map,Prod.mk.injEq] at f5;obtain⟨_,_,_,e⟩:=f5;rw[f4,←e]
        have hr:=uS (v:=.agg #[]) hu huk hb f1 f2 f3;rw[uE f2 f3 hv,D3 hb] at hr;refine l5 (run w (by simpa [SV.den,SV.dens] using hr)) (hk _ _ _ h4 ?_);rw[dJ hc (by simp),aA];have hins:bC.ins n l=l:=by
         have:l.contains n=true:=by simpa [MK.keys] using f6
         simp only[bC,this,if_true]
        rw[hins];exact qD hE hs3
       ·have hr:=nX (v:=.agg #[]) hu huk hb f1;refine l5 (run _ (by simpa [SV.den,SV.dens] using hr)) (hk _ _ _ h4 ?_);rw[dJ hc (by simp),aA];have hins:bC.ins n l=l++[n]:=by
         have:l.contains n=false:=by simpa [MK.keys] using f2
         simp only[bC,this];rfl
        rw[hins];exact qD (rW hE (by simp[MK.m]) (by simp[MK.keys]) f2) (nI (o':=.map (es.push {key:=.int .u64 n,val:=.agg #[],born:=clock}) (clock+1)) rfl hs3)
      ·rename_i T l;split at h4
       case h_2=>exact h4.elim
       rename_i hh blk;obtain⟨hno,h4⟩:=h4;have hnk:n∉(MK.ptrs T l).keys:=fun hn=>by obtain⟨l1,blk,c,l2,rfl⟩:=kR hn;exact hno (n,blk,c) (by simp) rfl
       rcases nN hE n with ⟨j,v,e,f1,f2,f3,f4,f5,f6⟩|⟨f1,f2⟩
       ·exact absurd f6 hnk
       ·have hr:=nX (v:=.pointer (some ⟨blk,0,none⟩)) hu huk hb f1;refine l5 (run _ (by simpa [SV.den,SV.dens] using hr)) (hk _ _ _ h4 ?_);rw[dJ hc (by simp),aA];refine qD (k:=.ptrs T (bC.adq l n blk)) (rW (k:=.ptrs T l) (n:=n) (v:=.pointer (some ⟨blk,0,none⟩)) hE (by simp[MK.m,bC]) (by simp[MK.keys,bC,bX,keysq]) f2) ?_;have:=nI (o':=.map (es.push {key:=.int .u64 n,val:=.pointer (some ⟨blk,0,none⟩),born:=clock}) (clock+1)) rfl hs3;have e5:(MK.ptrs T (bC.adq l n blk)).own=(MK.ptrs T l).own:=by simp[MK.own,bC,jN,fR,aO]
        rw[e5];exact this
     ·exact h4.elim
    ·exact h4.elim
   ·exact h4.elim
  ·exact h.elim
 ·exact h.elim
theorem wO (es:Array MapEntry):leftOf es #[]=es:=by unfold leftOf;exact Array.filter_eq_self.2 (by simp)
theorem AC (hMM:MM=bC) (hS:Std P TT AR CM SE) {F:HProp} (o:Oper) (t:TypeId) (x:Operand) (ho:o.op=.range t x):cE P F o (wN TT MM t x):=by
 intro σ a w next Q K hm h hout hk
 subst hMM;unfold wN at h;split at h
 ·rename_i _ _ _ kt et ht;have hu:=(aS (hS.tt _ _ ht).kind).2.2.1 kt et rfl;simp only[bO] at h;obtain⟨v,l,h1,h2⟩:=h;have e1:=aK hm (aR h1);split at h2
  ·rename_i p b;split at h2
   ·rename_i b' kd it hc;obtain⟨rfl,h2⟩:=h2;have hs:=hm.2.2;rw[fD hc,aA] at hs;obtain⟨es,clock,hE,hb,hs2⟩:=iO hs;have hs3:sat w (star (pts (b,none) (.ob (.map es clock))) (star kd.own (star (big (σ.heap.set p .nil)) F))):=
     (aI (B:=star (iS b es clock it) (star (pts (b,none) (.ob (.map es clock))) (star kd.own (star (big (σ.heap.set p .nil)) F)))) hs2 (by ac_rfl)).snd
    have hr:=run_range_map (P:=P) w t kt et b es clock hu hb;refine aW (v:=.ptr p w.heap.size 0) (w':=w.alloc (.mapIter (some b) clock #[] clock)) (by simp only[execOp,ho,e1,SV.den,Sem.run_bind,hr,Result.andThen_ok,Sem.run_pure]) (hk _ _ _ (h2 w.heap.size) ?_);rw[dJ hc (by simp),aA];have hs4:sat (w.alloc (.mapIter (some b) clock #[] clock)) (star (pts (w.heap.size,none) (.ob (.mapIter (some b) clock #[] clock))) _):=jF (.mapIter (some b) clock #[] clock) rfl hs3;refine zH (seen:=#[]) hE ⟨?_,trivial⟩ (aI hs4 (by ac_rfl));rw[wO];refine List.Perm.trans ?_ (l7 hE).symm;cases kd<;>exact List.Perm.refl _
   ·exact h2.elim
  ·refine aW (v:=.ptr σ.heap.length w.heap.size 0) (w':=w.alloc (.mapIter none 0 #[] 0)) ?_ (hk _ _ _ (h2 w.heap.size) ?_)
   ·have hr:=run_range_nilMap (P:=P) w t kt et hu;simp only[execOp,ho,e1,SV.den,Sem.run_bind,hr,Result.andThen_ok,Sem.run_pure]
   ·rw[fJ,aA];have hs4:sat (w.alloc (.mapIter none 0 #[] 0)) (star (pts (w.heap.size,none) (.ob (.mapIter none 0 #[] 0))) _):=jF (.mapIter none 0 #[] 0) rfl hm.2.2;show sat _ (star (jW w.heap.size) _);rw[jW,aL];exact⟨(0,#[],0),hs4⟩
  ·exact h2.elim
 ·exact h.elim
theorem HS (hMM:MM=bC) (hS:Std P TT AR CM SE) {F:HProp} (o:Oper) (t:TypeId) (x:Operand) {kt et:TypeId} (ht:P.underlying t=some (.map kt et)) (ho:o.op=.call ⟨.builtin .len,#[x],#[t]⟩):cE P F o (MY MM x):=by
 intro σ a w next Q K hm h hout hk
 subst hMM;unfold MY at h;simp only[bO] at h;obtain⟨v,l,h1,h2⟩:=h;have e1:=aK hm (aR h1);obtain⟨cs,hrun⟩:=eB (P:=P) (w:=w) (a:=a) ho;split at h2
 ·rename_i p b;split at h2
  ·rename_i b' kd it hc;obtain⟨rfl,h2⟩:=h2;have hs:=hm.2.2;rw[fD hc,aA] at hs;obtain⟨es,clock,hE,hb,hs2⟩:=iO hs;refine aW ?_ (hk _ _ _ h2 hm.2.2);rw[hrun];have hl:es.size=bC.ln (EQ bC kd):=by
    have:=(l7 hE).length_eq;simp only[List.length_map,Array.length_toList] at this;rw[this];cases kd<;>rfl
   simp[builtin,Builtin.len_,run_underlying ht,e1,SV.den,MapKept.run_getObj_map hb,goInt,hl]
  ·exact h2.elim
 ·refine aW ?_ (hk _ _ _ h2 hm.2.2);rw[hrun];simp[builtin,Builtin.len_,run_underlying ht,e1,SV.den,goInt]
 ·exact h2.elim
theorem pO (s:Array Nat) (a b:Nat):(s.push a).contains b=(s.contains b||a==b):=by simp only[Array.contains_eq_any_beq,Array.any_push];congr 1;exact Bool.beq_comm
theorem A4 {es:Array MapEntry} {seen:Array Nat} {e:MapEntry} (nb:(es.toList.map (·.born)).Nodup) (he:e∈(leftOf es seen).toList):
  ((leftOf es seen).toList.map (·.key)).Perm (e.key::(leftOf es (seen.push e.born)).toList.map (·.key)):=by
 have h1:(leftOf es seen).toList=es.toList.filter fun x=>!seen.contains x.born:=by simp[leftOf]
 have h2:(leftOf es (seen.push e.born)).toList=(es.toList.filter fun x=>!seen.contains x.born).filter fun x=>!(e.born==x.born):=by simp only[leftOf,Array.toList_filter,List.filter_filter];congr 1;funext x;rw[pO];cases seen.contains x.born<;>cases (e.born==x.born)<;>rfl
 rw[h1] at he;rw[h1,h2];have hn:((es.toList.filter fun x=>!seen.contains x.born).map (·.born)).Nodup:=(List.Sublist.map _ List.filter_sublist).nodup nb;generalize (es.toList.filter fun x=>!seen.contains x.born)=L at he hn;induction L with
 |nil=>cases he|cons x L ih=>
  simp only[List.map_cons,List.nodup_cons] at hn;rcases List.mem_cons.1 he with rfl|he
  ·have:(e::L).filter (fun x=>!(e.born==x.born))=L:=by
    rw[List.filter_cons];simp only[beq_self_eq_true,Bool.not_true,Bool.false_eq_true,if_false];rw[List.filter_eq_self];intro y hy;have:e.born≠y.born:=fun h=>hn.1 (h▸List.mem_map.2 ⟨y,hy,rfl⟩);simp[this]
   rw[this];exact List.Perm.refl _
  ·have hne:e.born≠x.born:=fun h=>hn.1 (h▸List.mem_map.2 ⟨e,he,rfl⟩);rw[List.filter_cons];have:(!(e.born==x.born))=true:=by simp[hne]
   rw[if_pos this];simp only[List.map_cons];exact((ih he hn.2).cons x.key).trans (List.Perm.swap _ _ _)
theorem DX {F:HProp} (o:Oper) (x:Operand) (s:Bool) (ho:o.op=.next x s):cE P F o (CJ x s):=by
 intro σ a w next Q K hm h hout hk
 unfold CJ at h;split at h
 ·exact h.elim
 ·simp only[bO] at h;obtain⟨v,l,h1,h2⟩:=h;have e1:=aK hm (aR h1);split at h2
  ·rename_i p r;split at h2
   ·rename_i b kd r' cur left hc;obtain⟨rfl,h3,h4⟩:=h2;have hs:=hm.2.2;rw[fD hc,aA] at hs;obtain⟨es,clock,hE,hb,hs2⟩:=iO hs;have hs3:sat w (star (iS b es clock (some (r,cur,left))) (star (pts (b,none) (.ob (.map es clock))) (star kd.own (star (big (σ.heap.set p .nil)) F)))):=aI hs2 (by ac_rfl);rw[iS,aL] at hs3;obtain⟨seen,hs3⟩:=hs3;rw[aA] at hs3;obtain⟨hR,hs3⟩:=aB.1 hs3;have hr:=(iD hs3).1;rcases run_next_at (P:=P) w o.type r b clock clock seen es clock hr hb hE.lt (Nat.le_refl _) with ⟨h0,hrun⟩|⟨e,he,w1,hw1,hrun⟩
    ·have hl:left=[]:=by
      have:=hR.1.length_eq;simp only[List.length_map,Array.length_toList,h0] at this;exact List.eq_nil_of_length_eq_zero this
     refine aW (v:=.tup [.bl false]) (w':=w) ?_ (hk _ _ _ (h3 hl) hm.2.2);simp only[execOp,ho,e1,SV.den,SV.dens,Sem.run_bind,hrun,Result.andThen_ok,Sem.run_pure]
    ·have hk1:e.key∈left.map (Value.int .u64):=hR.1.mem_iff.2 (List.mem_map.2 ⟨e,he,rfl⟩);obtain⟨n,hn,hen⟩:=List.mem_map.1 hk1;have hperm:=List.perm_cons_erase hn;refine aW (v:=.tup [.bl true,.i .u64 n,.v e.val]) (w':=ChangeMaps.setBlock w1 r (.mapIter (some b) clock (seen.push e.born) clock)) ?_ (hk _ _ _ (h4 n (left.erase n) e.val hperm) ?_)
     ·simp only[execOp,ho,e1,SV.den,SV.dens,Sem.run_bind,hrun,Result.andThen_ok,Sem.run_pure,hen]
     ·rw[dJ hc (by simp),aA];have hs4:sat w1 (star (pts (r,none) (.ob (.mapIter (some b) clock seen clock))) (star (pts (b,none) (.ob (.map es clock))) (star kd.own (star (big (σ.heap.set p .nil)) F)))):=by
       rcases hw1 with rfl|rfl
       ·exact hs3
       ·exact eU rfl hs3
      have hs5:=nI (o':=.mapIter (some b) clock (seen.push e.born) clock) rfl hs4;refine zH (seen:=seen.push e.born) hE ⟨?_,e,(mem_left he).1,hen.symm,seen,rfl⟩ (aI hs5 (by ac_rfl));have p1:=hR.1.symm.trans (hperm.map (Value.int .u64));have p2:=(A4 hE.nb he).symm.trans p1;rw[←hen] at p2;simp only[List.map_cons] at p2;exact(List.Perm.cons_inv p2).symm
   ·rename_i r' hc;obtain⟨rfl,h3⟩:=h2;have hs:=hm.2.2;rw[fD hc,aA] at hs;have hs:sat w (star (jW r) _):=hs;rw[jW,aL] at hs;obtain⟨⟨p1,p2,p3⟩,hs⟩:=hs;have hr:=(iD hs).1;refine aW (v:=.tup [.bl false]) (w':=w) ?_ (hk _ _ _ h3 hm.2.2);simp only[execOp,ho,e1,SV.den,SV.dens];simp[Instr.next,getObj,Sem.run,hr]
   ·exact h2.elim
  ·exact h2.elim
theorem zW (hMM:MM=bC) {F:HProp} (o:Oper) (x:Operand) (ho:o.op=.entry x):cE P F o (xN MM x):=by
 intro σ a w next Q K hm h hout hk
 subst hMM;unfold xN at h;simp only[bO] at h;obtain⟨v,l,h1,h2⟩:=h;have e1:=aK hm (aR h1);split at h2
 ·rename_i p r;split at h2
  ·rename_i b kd r' n left hc;obtain⟨rfl,h3⟩:=h2;have hs:=hm.2.2;rw[fD hc,aA] at hs;obtain⟨es,clock,hE,hb,hs2⟩:=iO hs;have hs3:sat w (star (iS b es clock (some (r,some n,left))) (star (pts (b,none) (.ob (.map es clock))) (star kd.own (star (big (σ.heap.set p .nil)) F)))):=aI hs2 (by ac_rfl);rw[iS,aL] at hs3;obtain⟨seen,hs3⟩:=hs3;rw[aA] at hs3;obtain⟨hR,hs3⟩:=aB.1 hs3;have hr:=(iD hs3).1;obtain⟨e,he,hen,s0,rfl⟩:=hR.2;have hrun:=run_entry_at (P:=P) w r b clock s0 es clock e hr hb he hE.nb;have hmem:(Value.int .u64 n,e.val)∈kd.m:=by rw[←hen];exact hE.m.mem_iff.1 (List.mem_map.2 ⟨e,he,rfl⟩)
   have hrun2:(execOp a.eval o).run P w=.ok (.value (.tuple #[.int .u64 n,e.val])) w:=by simp only[execOp,ho,e1,SV.den,Sem.run_bind,hrun,Result.andThen_ok,Sem.run_pure,hen]
   split at h3
   ·rename_i l;have hv:e.val=.agg #[]:=by
     simp only[MK.m,List.mem_map,Prod.mk.injEq] at hmem;obtain⟨_,_,_,e⟩:=hmem;exact e.symm
    exact aW (v:=.tup [.i .u64 n,.agg []]) (by rw[hrun2,hv];rfl) (hk _ _ _ h3 hm.2.2)
   ·rename_i T l _;have hnk:n∈keysq l:=by
     have:e.key∈(MK.ptrs T l).keys.map (Value.int .u64):=(l7 hE).mem_iff.1 (List.mem_map.2 ⟨e,he,rfl⟩);rw[hen] at this;obtain⟨m,hm,e2⟩:=List.mem_map.1 this;cases e2;exact hm
    obtain⟨l1,blk,c,l2,rfl⟩:=kR hnk;have hv:=uO hE.nd hmem;cases c with
    |some cs=>
     refine aW (v:=.tup [.i .u64 n,.ptr σ.heap.length blk 0]) (by rw[hrun2,hv];rfl) (hk _ _ _ (h3.1 l1 blk cs l2 rfl) ?_);rw[fJ,dJ hc (by simp)];simp only[aA];rw[pY] at hs2;have hs4:sat w (star (dA b (MK.ptrs T (l1++(n,blk,none)::l2)) (some (r,some n,left))) (star ((Cel.raw true blk T cs:C).den) (star (big (σ.heap.set p .nil)) F))):=by rw[dA,aL];refine⟨(es,clock),?_⟩;simp only[aA];exact aB.2 ⟨mZ hE,aI hs2 (by simp only[aA];ac_rfl)⟩
     exact aI hs4 (by show star (dA _ _ _) _=_;simp only[Cel.den,PayDen.den,bC];ac_rfl)
    |none=>exact aW (v:=.tup [.i .u64 n,.v (.pointer (some ⟨blk,0,none⟩))]) (by rw[hrun2,hv];rfl) (hk _ _ _ (h3.2 l1 blk l2 rfl) hm.2.2)
  ·exact h2.elim
 ·exact h2.elim
end
section
variable {P:Program}
variable (TT:TypeId→Option TyI) (CM:mU→Int→Int→Bool) (NI:List Int→Nat→Int) (NA:iC) (MM:MF)
def zB (m:(Nat→Nat)→SM Pay (Delta Pay)) (σ:St Pay) (K:SV→List C→Prop):Prop:=∀β,(m β).goK σ [] fun d _=>d.obl∧match d.fact with
 |none=>K d.res (puts d.ws σ.heap)|some p=>p→K d.res (puts d.ws σ.heap)
theorem pW {F:HProp} {o:Oper} {m:(Nat→Nat)→SM Pay (Delta Pay)} (h:eG P o m):cE P F o (zB m):=by
 intro σ a w next Q K hm hg hout hk
 have key:∀β,∃d l,(m β).go σ []=some (d,l)∧d.obl∧(d.factP→K d.res (puts d.ws σ.heap)):=by
  intro β;have h1:=hg β;rw[bO] at h1;obtain⟨d,l,e,ho,hk⟩:=h1;refine⟨d,l,e,ho,fun hf=>?_⟩;unfold Delta.factP at hf;cases e2:d.fact with
  |none=>rw[e2] at hk;exact hk|some p=>rw[e2] at hk hf;exact hk hf
 refine h σ F a w next Q hm (fun β=>let ⟨d,l,h1,h2,_⟩:=key β;⟨d,l,h1,h2⟩) hout (fun β d l w' e hf hs=>?_)
 obtain⟨d',l',e1,_,e3⟩:=key β;rw[e] at e1;cases e1;exact hk _ _ _ (e3 hf) hs
def xJ (t:TypeId) (n c:Operand) (σ:St Pay) (K:SV→List C→Prop):Prop:=match TT t with
 |some ⟨_,_,_,.slice e⟩=>match TT e with
  |some ⟨1,_,.lit k 0,.int k'⟩=>k=k'∧(ev n).goK σ [] fun v _=>(ev c).goK σ [] fun u _=>match v,u with
   |.i .i64 (.ofNat m),.i .i64 (.ofNat m')=>m=m'∧CM .le (Int.ofNat m) 4294967296=true∧∀b:Nat,K (.sl σ.heap.length 1 b 0 m m) (σ.heap++[.prd (.mr e k 1 b 0 m m (MM.rep m))])|_,_=>False
  |_=>False
 |_=>False
def D7 (t:TypeId) (x:Operand) (lo hi mx:Option Operand) (σ:St Pay) (K:SV→List C→Prop):Prop:=match lo,hi,mx with
 |none,some hi,none=>match TT t with
   |some ⟨_,_,_,.array n e⟩=>match TT e with
    |some ⟨1,_,_,.int k⟩=>(ev x).goK σ [] fun v _=>(ev hi).goK σ [] fun u _=>match u with
     |.i .i64 (.ofNat m)=>match v with
      |.ptr p b 0=>match σ.heap.getD p .nil with
       |.raw true b' T cs=>match nK k cs with
        |some l=>b=b'∧cs.length=n∧CM .le (Int.ofNat m) (Int.ofNat n)=true∧K (.sl p 1 b 0 m n) (σ.heap.set p (.prd (.mr T k 1 b 0 n m (MM.tk l m))))|none=>False
       |_=>False
      |_=>False
     |_=>False
    |_=>False
   |_=>False
 |_,_,_=>False
def DW (t:TypeId) (x i:Operand) (σ:St Pay) (K:SV→List C→Prop):Prop:=(ev x).goK σ [] fun v _=>match v with
 |.sl h nn b off n cap=>match TT t with
  |some ⟨_,_,_,.slice e⟩=>match TT e with
   |some ⟨1,_,_,.int k⟩=>(ev i).goK σ [] fun j _=>match j with
    |.i _ (.ofNat m)=>match σ.heap.getD h .nil with
     |.prd (.mr T k' nn' b' off' cap' n' l)=>nn=nn'∧b=b'∧off=off'∧cap=cap'∧n=n'∧CM .lt (Int.ofNat m) (Int.ofNat n)=true∧K (.el h b off m) σ.heap|_=>False
    |_=>False
   |_=>False
  |_=>False
 |_=>False
def sV (t:TypeId) (p x:Operand) (σ:St Pay) (K:SV→List C→Prop):Prop:=(ev p).goK σ [] fun v _=>(ev x).goK σ [] fun y _=>match v with
 |.el h b off j=>match TT t with
  |some ⟨1,false,_,.int k⟩=>match y with
   |.i k2 y=>match σ.heap.getD h .nil with
    |.prd (.mr T k' nn' b' off' cap' n' l)=>b=b'∧off=off'∧k=k'∧k2=k∧CM .lt (Int.ofNat j) (Int.ofNat n')=true∧K (.v undef) (σ.heap.set h (.prd (.mr T k' nn' b' off' cap' n' (MM.st l j y))))|_=>False
   |_=>False
  |_=>False
 |_=>False
def wE (t:TypeId) (x:Operand) (σ:St Pay) (K:SV→List C→Prop):Prop:=(ev x).goK σ [] fun v _=>match v with
 |.el h b off j=>match TT t with
  |some ⟨1,false,_,.int k⟩=>match σ.heap.getD h .nil with
   |.prd (.mr T k' nn' b' off' cap' n' l)=>b=b'∧off=off'∧k=k'∧CM .lt (Int.ofNat j) (Int.ofNat n')=true∧K (.i k' (NI l j)) σ.heap|_=>False
  |_=>False
 |_=>False
def yM (args:List Operand) (ts:List TypeId) (σ:St Pay) (K:SV→List C→Prop):Prop:=match args,ts with
 |[s,x],[t,tx]=>match TT t with
  |some ⟨_,_,_,.slice e⟩=>match TT e with
   |some ⟨1,_,z,.int k⟩=>match TT tx with
    |some ⟨_,_,_,.slice _⟩=>(z.den.cells.size=1)∧(ev s).goK σ [] fun v _=>(ev x).goK σ [] fun u _=>match u with
     |.hv q (.slice (some ⟨b0,0,none⟩) 1 1)=>match σ.heap.getD q .nil with
      |.raw _ b0' _ [.i k0 y]=>b0=b0'∧k0=k∧match v with
       |.v (.slice none 0 0)=>∀b2 off2 cap2:Nat,K (.sl σ.heap.length 1 b2 off2 (NA.na 0 1) cap2) (σ.heap++[.prd (.mr e k 1 b2 off2 cap2 (NA.na 0 1) (MM.sn [] y))])|.sl h nn b off n cap=>match σ.heap.getD h .nil with
        |.prd (.mr T k' nn' b' off' cap' n' l)=>nn=nn'∧b=b'∧off=off'∧cap=cap'∧n=n'∧T=e∧k=k'∧CM .le (Int.ofNat (NA.na n 1)) 4294967296=true∧
          ∀b2 off2 cap2:Nat,K (.sl h 1 b2 off2 (NA.na n 1) cap2) (σ.heap.set h (.prd (.mr e k 1 b2 off2 cap2 (NA.na n 1) (MM.sn l y))))
        |_=>False
       |_=>False
      |_=>False
     |_=>False
    |_=>False
   |_=>False
  |_=>False
 |_,_=>False
def MJ (f:FV):Option (IntKind×Nat×List Int):=match f with
 |.ul _ k n l=>some (k,n,l)|.bys _ n (some l)=>some (.u8,n,MM.by' l)|_=>none
def xT (args:List Operand) (ts:List TypeId) (σ:St Pay) (K:SV→List C→Prop):Prop:=match args,ts with
 |[s,x],[t,tx]=>match TT t with
  |some ⟨_,_,_,.slice e⟩=>match TT e with
   |some ⟨1,_,_,.int k⟩=>match TT tx with
    |some ⟨_,_,_,.slice _⟩=>(ev s).goK σ [] fun v _=>(ev x).goK σ [] fun u _=>match v with
     |.sl h nn b off n cap=>match u with
      |.sl h2 nn2 b2 off2 n2 cap2=>match σ.heap.getD h .nil with
       |.prd (.mr T k' nn' b' off' cap' n' l)=>match σ.heap.getD h2 .nil with
        |.prd (.sl sp nn2' b2' off2' cap2' f)=>match MJ MM f with
         |some (k2,m2,l2)=>nn=nn'∧b=b'∧off=off'∧cap=cap'∧n=n'∧nn2=nn2'∧b2=b2'∧off2=off2'∧cap2=cap2'∧n2=m2∧k=k'∧k2=k∧n=n2∧nn'≠0∧
           K (.i .i64 (Int.ofNat n)) (σ.heap.set h (.prd (.mr T k' nn' b' off' cap' n' l2)))
         |none=>False
        |_=>False
       |_=>False
      |_=>False
     |_=>False
    |_=>False
   |_=>False
  |_=>False
 |_,_=>False
inductive IdxIn (m:Int) (s:ByteArray):Prop where
 |mk (h:0≤m∧m<(s.size:Int))
inductive InB (y:Int):Prop where
 |mk (h:0≤y∧y≤255)
def wT (t:TypeId) (x i:Operand) (σ:St Pay) (K:SV→List C→Prop):Prop:=match TT t with
 |some ⟨_,_,_,.array n e⟩=>match TT e with
  |some ⟨1,false,_,_⟩=>(ev x).goK σ [] fun v _=>(ev i).goK σ [] fun u _=>match v with
   |.agg cs=>match u with
    |.lit _ (.ofNat m)=>match cs[m]? with
     |some y=>Nat.blt m n=true∧K y σ.heap|none=>False
    |_=>False
   |_=>False
  |_=>False
 |some ⟨_,_,_,.str⟩=>(ev x).goK σ [] fun v _=>(ev i).goK σ [] fun u _=>match v with
  |.v (.string s)=>match u with
   |.i _ m=>IdxIn m s∧∀y:Int,InB y→K (.i .u8 y) σ.heap|_=>False
  |_=>False
 |_=>False
theorem DS (hS:Std P TT AR CM SE) {F:HProp} (o:Oper) (t:TypeId) (x i:Operand) (ho:o.op=.indexAddr t x i):cE P F o (DW TT CM t x i):=by
 intro σ a w next Q K hm h hout hk
 unfold DW at h;simp only[bO] at h;obtain⟨v,l,h1,h2⟩:=h;have e1:=aK hm (aR h1);split at h2
 ·rename_i hh nn b off n cap;split at h2
  ·rename_i ht;have hu:=(aS (hS.tt _ _ ht).kind).2.1 _ rfl;split at h2
   ·rename_i he;have hs:=(hS.tt _ _ he).run_sizeOf w;simp only at hs;obtain⟨j,l,h3,h4⟩:=h2;have e2:=aK hm (aR h3);split at h4
    ·rename_i kk m;split at h4
     ·rename_i T k' nn' b' off' cap' n' l hc;obtain⟨rfl,rfl,rfl,rfl,rfl,o1,h5⟩:=h4;rw[hS.cm] at o1;simp only[cmStd,decide_eq_true_eq] at o1;have hlt:m<_:=Int.ofNat_lt.1 o1;obtain⟨N,hnn,_⟩:=j6 (by omega) (qA hc hm.2.2);refine aW ?_ (hk _ _ _ h5 hm.2.2);have:=cX (P:=P) hu w hs b off kk (.ofNat m) (by simp) o1 (cap:=cap);simp only[execOp,ho,e1,e2,SV.den];cases nn with
      |zero=>exact absurd rfl hnn|succ nn=>simp only[slA,Int.ofNat_eq_natCast,Int.toNat_natCast,Nat.mul_one] at this⊢;simp only[Sem.run_bind,this,Result.andThen_ok,Sem.run_pure]
     ·exact h4.elim
    ·exact h4.elim
   ·exact h2.elim
  ·exact h2.elim
 ·exact h2.elim
theorem AB (hNI:NI=dI) (hS:Std P TT AR CM SE) {F:HProp} (o:Oper) (t:TypeId) (x:Operand) (ho:o.op=.load t x):cE P F o (wE TT CM NI t x):=by
 intro σ a w next Q K hm h hout hk
 unfold wE at h;simp only[bO] at h;obtain⟨v,l,h1,h2⟩:=h;have e1:=aK hm (aR h1);split at h2
 ·rename_i h b off j;split at h2
  ·rename_i k ht;have hT:=hS.tt _ _ ht;split at h2
   ·rename_i T k' nn b' off' cap' n' l hc;obtain⟨rfl,rfl,rfl,o1,h5⟩:=h2;rw[hS.cm] at o1;simp only[cmStd,decide_eq_true_eq] at o1;have hlt:j<n':=Int.ofNat_lt.1 o1;obtain⟨N,hnn,hl,_,_,hs⟩:=j6 (by omega) (qA hc hm.2.2);have hcell:=(aX _ off hs j (.int k (dI l j)) (by rw[List.getElem?_map,cO (by omega)];rfl)).1;have:=cW hT rfl hcell;refine aW ?_ (hk _ _ _ h5 hm.2.2);subst hNI;simp only[execOp,ho,e1,SV.den,Sem.run_bind,this,Result.andThen_ok,Sem.run_pure]
   ·exact h2.elim
  ·exact h2.elim
 ·exact h2.elim
theorem xV (hMM:MM=bC) (hS:Std P TT AR CM SE) {F:HProp} (o:Oper) (t:TypeId) (p x:Operand) (ho:o.op=.store t p x):cE P F o (sV TT CM MM t p x):=by
 intro σ a w next Q K hm h hout hk
 subst hMM;unfold sV at h;simp only[bO] at h;obtain⟨v,l,h1,y,l',h1',h2⟩:=h;have e1:=aK hm (aR h1);have e2:=aK hm (aR h1');split at h2
 ·rename_i h b off j;split at h2
  ·rename_i k ht;have hT:=hS.tt _ _ ht;split at h2
   ·rename_i k2 y;split at h2
    ·rename_i T k' nn b' off' cap' n' l hc;obtain⟨rfl,rfl,rfl,rfl,o1,h5⟩:=h2;rw[hS.cm] at o1;simp only[cmStd,decide_eq_true_eq] at o1;have hlt:j<n':=Int.ofNat_lt.1 o1;obtain⟨N,hnn,hl,hcap,hN,hs⟩:=j6 (by omega) (qA hc hm.2.2);have hcell:=aX _ off hs j (.int k2 (dI l j)) (by rw[List.getElem?_map,cO (by omega)];rfl);have hst:=kW (P:=P) (v:=.int k2 y) rfl hcell;have hrun:(Instr.storeAt t (.pointer (some ⟨b,off+j,none⟩)) (.int k2 y)).run P w=.ok () (w.setCell ⟨b,off+j,none⟩ (.int k2 y)):=
      fK hT rfl (by simpa [storeCells,Value.cells,Addr.add] using hst)
     refine l5 (w':=w.setCell ⟨b,off+j,none⟩ (.int k2 y)) (by simp[execOp,ho,e1,e2,SV.den,hrun]) (hk _ _ _ h5 ?_);rw[dJ hc (by simp),aA];refine iE hnn (by simpa [bC] using hl) hcap hN ?_;have:=eC (v:=.int k2 y) _ off j (by simp;omega) hs;rw[←List.map_set] at this;exact this
    ·exact h2.elim
   ·exact h2.elim
  ·exact h2.elim
 ·exact h2.elim
theorem AS (hMM:MM=bC) (hS:Std P TT AR CM SE) (hby:∀t i,(TT t).isSome=true→P.info? t=some i→i.bytes≤32768) {F:HProp} (o:Oper) (t:TypeId) (n c:Operand) (ho:o.op=.makeSlice t n c):cE P F o (xJ TT CM MM t n c):=by
 intro σ a w next Q K hm h hout hk
 subst hMM;unfold xJ at h;split at h
 ·rename_i _ _ _ e ht;have hu:=(aS (hS.tt _ _ ht).kind).2.1 _ rfl;split at h
  ·rename_i k k' he;have hT:=hS.tt _ _ he;obtain⟨rfl,h⟩:=h;simp only[bO] at h;obtain⟨v,l,h1,u,l',h2,h3⟩:=h;have e1:=aK hm (aR h1);have e2:=aK hm (aR h2);split at h3
   ·rename_i m m';obtain⟨rfl,o1,h4⟩:=h3;rw[hS.cm] at o1;simp only[cmStd,decide_eq_true_eq,Int.ofNat_eq_natCast] at o1;have ole:m≤4294967296:=by omega
    obtain⟨i,hi,hsz,hz⟩:=hT.info;have hb:=hby e i (by rw[he];rfl) hi;have hbytes:i.bytes*m≤281474976710656:=by
     calc _≤32768*4294967296:=Nat.mul_le_mul hb ole
      _≤_:=by decide
    have hrun:=run_make_row (P:=P) t e i (.int k 0) hu hi (by rw[hz];rfl) hsz rfl .i64 .i64 m hbytes (by omega) w;refine aW (v:=.sl σ.heap.length 1 w.heap.size 0 m m) (w':=w.alloc (.cells (madeCells #[.int k 0] m) e)) ?_ (hk _ _ _ (h4 w.heap.size) ?_)
    ·simp only[execOp,ho,e1,e2,SV.den,slA,Int.ofNat_eq_natCast,Sem.run_bind,hrun,Result.andThen_ok,Sem.run_pure]
    ·rw[fJ,aA];have hcells:(madeCells #[Value.int k 0] m)=((List.replicate m (0:Int)).map (Value.int k)).toArray:=by
      apply Array.ext';simp only[madeCells,List.map_replicate];apply List.ext_getElem
      ·simp
      ·intro j h1 h2;simp[Nat.mod_one]
     have hs:=eX (w:=w) true ((List.replicate m (0:Int)).map (Value.int k)) e hm.2.2;rw[←hcells] at hs;show sat _ (star (iG e k 1 w.heap.size 0 m m (bC.rep m)) _);refine iE (N:=((List.replicate m (0:Int)).map (Value.int k)).length) (by omega) (by simp[bC]) (Nat.le_refl _) (by simp) ?_;simp only[bU,bC];have key:sat (w.alloc (.cells (madeCells #[.int k 0] m) e)) (star (exi (fun vs:List Value=>star (pure' (m+vs.length=m)) (aG true w.heap.size (0+m) vs))) (star (aG true w.heap.size 0 ((List.replicate m (0:Int)).map (Value.int k))) (star (hdr w.heap.size e ((List.replicate m (0:Int)).map (Value.int k)).length) (star (big σ.heap) F)))):=by rw[aL];refine⟨[],?_⟩;rw[aA];refine aB.2 ⟨rfl,?_⟩;simp only[aG,aH];exact aI hs (by ac_rfl)
     exact aI key (by ac_rfl)
   ·exact h3.elim
  ·exact h.elim
 ·exact h.elim
theorem DN (hMM:MM=bC) (hS:Std P TT AR CM SE) {F:HProp} (o:Oper) (t:TypeId) (x:Operand) (lo hi mx:Option Operand) (ho:o.op=.slice t x lo hi mx):cE P F o (D7 TT CM MM t x lo hi mx):=by
 intro σ a w next Q K hm h hout hk
 subst hMM;unfold D7 at h;split at h
 ·rename_i hi
  ·split at h
   ·rename_i _ _ _ n e hta;have hua:=(aS (hS.tt _ _ hta).kind).2.2.2.2.2.2.2.2.1 _ _ rfl;split at h
    ·rename_i k he;have hs1:=(hS.tt _ _ he).run_sizeOf w;simp only at hs1;simp only[bO] at h;obtain⟨v,l,h1,u,l',h2,h3⟩:=h;have e1:=aK hm (aR h1);have e2:=aK hm (aR h2);split at h3
     ·rename_i m;split at h3
      ·rename_i p b;split at h3
       ·rename_i b' T cs hc;split at h3
        ·rename_i l hl;obtain⟨rfl,hn,o1,h4⟩:=h3;rw[hS.cm] at o1;simp only[cmStd,decide_eq_true_eq,Int.ofNat_eq_natCast] at o1;have ole:m≤n:=by omega
         refine aW (w':=w) ?_ (hk _ _ _ h4 ?_)
         ·simp only[execOp,ho,e1,e2,SV.den,slA,Option.map_some,Option.map_none];have hrun:(Instr.sliceAt t (.pointer (some ⟨b,0,none⟩)) none (some (.int .i64 (↑m:Int))) none).run P w=.ok (.slice (some ⟨b,0,none⟩) m n) w:=by
           have ha:∀w,(Instr.sureAddr (Value.pointer (some ⟨b,0,none⟩))).run P w=.ok ⟨b,0,none⟩ w:=fun w=>rfl;have hb:∀w,(Instr.sliceBounds false n n none (some (.int .i64 (↑m:Int))) none).run P w=.ok (0,m,n) w:=by intro w;have hm0:(0:Int)≤(m:Int)∧(m:Int)≤(n:Int):=⟨by omega,by omega⟩;simp only[Instr.sliceBounds,Instr.sliceBound,asIntOf,Sem.run_bind,Sem.run_pure,Result.andThen_ok,Int.ofNat_eq_natCast,hm0,and_self,if_true,Int.toNat_natCast]
           simp only[Instr.sliceAt,Sem.run_bind,run_underlying hua,Result.andThen_ok,ha,hb,hs1,Sem.run_pure,Nat.zero_mul,Nat.sub_zero];congr 3;split<;>rfl
          simp only[Int.ofNat_eq_natCast,Sem.run_bind,hrun,Result.andThen_ok,Sem.run_pure]
         ·rw[dJ hc (by simp),aA];have hs:=hm.2.2;rw[fD hc,aA] at hs;simp only[Cel.den] at hs;have hd:=jB hl;have hll:l.length=n:=by
           have:=congrArg List.length hd;rw[bD] at this;simp at this;omega
          rw[hd,hn] at hs;rw[←List.take_append_drop m l,List.map_append,bJ] at hs;show sat _ (star (iG T k 1 b 0 n m (bC.tk l m)) _);refine iE (N:=n) (by omega) (by simp[bC];omega) ole (by omega) ?_;simp only[bC,bU];have key:sat w (star (exi (fun vs:List Value=>star (pure' (m+vs.length=n)) (aG true b (0+m) vs))) (star (aG true b 0 ((l.take m).map (Value.int k))) (star (hdr b T n) (star (big (σ.heap.set p .nil)) F)))):=by
           rw[aL];refine⟨(l.drop m).map (Value.int k),?_⟩;rw[aA];refine aB.2 ⟨by simp;omega,?_⟩;have e5:((l.take m).map (Value.int k)).length=m:=by simp;omega
           rw[e5] at hs;simp only[aA] at hs;exact aI hs (by ac_rfl)
          exact aI key (by ac_rfl)
        ·exact h3.elim
       ·exact h3.elim
      ·exact h3.elim
     ·exact h3.elim
    ·exact h.elim
   ·exact h.elim
 ·exact h.elim
theorem qY {w:World} {t tx ty e e':TypeId} {i:TypeInfo} {z:Value} (ht:P.underlying t=some (.slice e)) (htx:P.underlying tx=some (.slice e')) (hi:P.info? e=some i) (hz:i.zero=some z) (hsz:i.size=1) (hzs:z.cells.size=1) (hby:i.bytes≤32768)
  {k:IntKind} {nn b off cap n b0:Nat} {l:List Int} {y:Int} {A:HProp} (h:sat w (star (iG e k nn b off cap n l) A)) (hy:w.cell? ⟨b0,0,none⟩=some (.int k y)) (hle:n+1≤4294967296):
  ∃b' off' cap' w',(Builtin.append_ #[t,tx] ty #[.slice (slA nn b off) n cap,.slice (some ⟨b0,0,none⟩) 1 1]).run P w=.ok (.slice (slA 1 b' off') (n+1) cap') w'∧sat w' (star (iG e k 1 b' off' cap' (n+1) (l++[y])) A):=by
 have hsrc:Src P i.size tx (.slice (some ⟨b0,0,none⟩) 1 1) 1 [.int k y] w:=by
  rw[hsz];refine Src.ofSlice w htx _ _ _ _ rfl (fun j u hj=>?_) (fun u hu=>by simp at hu;subst hu;rfl);cases j with
  |zero=>simp at hj;subst hj;simpa [Addr.add] using hy|succ j=>simp at hj
 by_cases hroom:n+1≤cap
 ·cases nn with
  |zero=>obtain⟨⟨_,_,rfl⟩,_⟩:=aB.1 h;omega
  |succ nn=>
   simp only[iG] at h;rw[aL] at h;obtain⟨N,h⟩:=h;simp only[aA] at h;obtain⟨⟨hl,h2,h3⟩,h⟩:=aB.1 h;have h4:=aI (B:=star (bU (nn+1) b off n cap) (star (hdr b e N) (star (aG true b off (l.map (Value.int k))) A))) h (by ac_rfl);simp only[bU] at h4;rw[aL] at h4;obtain⟨us,h4⟩:=h4;rw[aA] at h4;obtain⟨hus,h4⟩:=aB.1 h4;obtain⟨u,us,rfl⟩:∃u us',us=u::us':=by
    cases us with
    |nil=>simp at hus;omega|cons u us=>exact⟨u,us,rfl⟩
   have hc:=aX (u::us) (off+n) h4 0 u rfl;have hrun:=run_append_room_src (P:=P) w t tx ty e i ht hi b off n cap (.slice (some ⟨b0,0,none⟩) 1 1) 1 [.int k y] hsrc hroom
    (fun j hj=>by simp at hj;subst hj;rw[hsz,Nat.mul_one,hc.1];rfl)
    (fun j hj=>by simp at hj;subst hj;rw[hsz,Nat.mul_one];exact hc.2)
   rw[hsz,Nat.mul_one] at hrun;refine⟨b,off,cap,_,hrun,?_⟩;have h5:=iA [.int k y] (u::us) (off+n) w h4 (by simp);refine iE (N:=N) (by omega) (by simp;omega) hroom h3 ?_;simp only[List.map_append,List.map_cons,List.map_nil,bJ,List.length_map,hl];have key:sat (w.setCells b (off+n) [.int k y]) (star (exi (fun vs:List Value=>star (pure' (n+1+vs.length=cap)) (aG true b (off+(n+1)) vs))) (star (aG true b (off+n) [.int k y]) (star (hdr b e N) (star (aG true b off (l.map (Value.int k))) A)))):=by rw[aL];refine⟨us,?_⟩;rw[aA];refine aB.2 ⟨by simp at hus;omega,?_⟩;simp only[List.length_cons,List.length_nil,List.drop_succ_cons,List.drop_zero,bJ,Nat.zero_add] at h5;rw[show off+(n+1)=off+n+1 by omega];simp only[aA] at h5;exact aI h5 (by ac_rfl)
   simp only[bU];exact aI key (by ac_rfl)
 ·have hfit:Builtin.nextslicecap (n+1) cap*i.bytes≤281474976710656:=by
   have hcl:cap≤4294967296:=by omega
   have h1:=nextslicecap_le (need:=n+1) (old:=cap) (by omega)
   calc _≤(2*4294967296)*32768:=Nat.mul_le_mul (by omega) hby
    _≤_:=by decide
  have hold:(Builtin.firstCells i.size n (.slice (slA nn b off) n cap)).run P w.drew=.ok (l.map (Value.int k)).toArray w.drew:=by
   rw[hsz];cases nn with
   |zero=>obtain⟨⟨rfl,rfl,rfl⟩,_⟩:=aB.1 h;exact run_firstCells_none w.drew 1 0 0 0
   |succ nn=>simp only[iG] at h;rw[aL] at h;obtain⟨N,h⟩:=h;simp only[aA] at h;obtain⟨⟨hl,h2,h3⟩,h⟩:=aB.1 h;have h4:=aI (B:=star (aG true b off (l.map (Value.int k))) (star (hdr b e N) (star (bU (nn+1) b off n cap) A))) h (by ac_rfl);refine run_firstCells_some w.drew 1 n ⟨b,off,none⟩ n cap _ (by simp;omega) (fun j u hu=>?_);rw[Addr.add_lit];exact(aX _ off h4 j u hu).1
  have hl:l.length=n:=by
   cases nn with
   |zero=>obtain⟨⟨rfl,rfl,rfl⟩,_⟩:=aB.1 h;rfl
   |succ nn=>simp only[iG] at h;rw[aL] at h;obtain⟨N,h⟩:=h;simp only[aA] at h;exact(aB.1 h).1.1
  have hrun:=run_append_grow_src (P:=P) w t tx ty e i z ht hi hz (slA nn b off) n cap (l.map (Value.int k)) hold (.slice (some ⟨b0,0,none⟩) 1 1) 1 [.int k y] hsrc (by omega) (by omega) hfit;refine⟨w.heap.size,0,grownCap w (n+1) cap e,_,hrun,?_⟩;have hA:sat w.drew A:=eU rfl h.snd;have hg:=grownCap_ge w (n+1) cap e;have h2:=eX (w:=w.drew) true ((l.map (Value.int k)++[.int k y])++(Builtin.zeroCells z.cells (grownCap w (n+1) cap e-(n+1))).toList) e hA;have hzl:(Builtin.zeroCells z.cells (grownCap w (n+1) cap e-(n+1))).toList.length=grownCap w (n+1) cap e-(n+1):=by simp[Builtin.zeroCells,hzs]
  rw[bJ] at h2;generalize hzz:(Builtin.zeroCells z.cells (grownCap w (n+1) cap e-(n+1))).toList=zs at h2 hzl;have harr:(l.map (Value.int k)++[Value.int k y]).toArray++Builtin.zeroCells z.cells (grownCap w (n+1) cap e-(n+1))=((l.map (Value.int k)++[Value.int k y])++zs).toArray:=by rw[←hzz];apply Array.ext';simp
  rw[harr];have hll:(l.map (Value.int k)++[Value.int k y]).length=n+1:=by simp[hl]
  rw[hll,show w.drew.heap.size=w.heap.size from rfl] at h2;refine iE (N:=((l.map (Value.int k)++[Value.int k y])++zs).length) (by omega) (by simp[hl]) hg (by rw[List.length_append,hll];omega) ?_;have key:sat (w.drew.alloc (.cells ((l.map (Value.int k)++[Value.int k y])++zs).toArray e)) (star (exi (fun vs:List Value=>star (pure' (n+1+vs.length=grownCap w (n+1) cap e)) (aG true w.heap.size (0+(n+1)) vs))) (star (aG true w.heap.size 0 (l.map (Value.int k)++[Value.int k y])) (star (hdr w.heap.size e ((l.map (Value.int k)++[Value.int k y])++zs).length) A))):=by rw[aL];refine⟨zs,?_⟩;rw[aA];refine aB.2 ⟨by omega,?_⟩;simp only[aA] at h2;exact aI h2 (by ac_rfl)
  simp only[bU,List.map_append,List.map_cons,List.map_nil];exact aI key (by ac_rfl)
theorem ES (hNA:NA=cC) (hMM:MM=bC) (hS:Std P TT AR CM SE) (hby:∀t i,(TT t).isSome=true→P.info? t=some i→i.bytes≤32768) {F:HProp} (o:Oper) (args:Array Operand) (ts:Array TypeId) (ho:o.op=.call ⟨.builtin .append,args,ts⟩):
  cE P F o (yM TT CM NA MM args.toList ts.toList):=by
 intro σ a w next Q K hm h hout hk
 subst hMM;subst hNA;obtain⟨args⟩:=args;obtain⟨ts⟩:=ts;obtain⟨cs,hrunb⟩:=eB (P:=P) (w:=w) (a:=a) ho;unfold yM at h;split at h
 ·rename_i s x t tx ea et;simp only at ea et;subst ea;subst et;split at h
  ·rename_i _ _ _ e ht;have hu:=(aS (hS.tt _ _ ht).kind).2.1 _ rfl;split at h
   ·rename_i z k he;have hT:=hS.tt _ _ he;obtain⟨i,hi,hsz,hz⟩:=hT.info;have hb:=hby e i (by rw[he];rfl) hi;split at h
    ·rename_i htx;have hux:=(aS (hS.tt _ _ htx).kind).2.1 _ rfl;simp only[bO] at h;obtain⟨hzc,v,l,h1,u,l',h2,h3⟩:=h;have e1:=aK hm (aR h1);have e2:=aK hm (aR h2);split at h3
     ·rename_i q b0;split at h3
      ·rename_i own b0' T0 k0 y hc;obtain⟨rfl,rfl,h4⟩:=h3;have hcell:w.cell? ⟨b0,0,none⟩=some (.int k0 y):=(pE (j:=0) hm.2.2 hc rfl).1;split at h4
       ·
        have hs:sat w (star (iG e k0 0 0 0 0 0 []) (star (big σ.heap) F)):=by show sat w (star (pure' (([]:List Int)=[]∧(0:Nat)=0∧(0:Nat)=0)) _);exact aB.2 ⟨⟨rfl,rfl,rfl⟩,hm.2.2⟩
        obtain⟨b',off',cap',w',hrun,hs'⟩:=qY (ty:=o.type) hu hux hi hz hsz hzc hb hs hcell (by omega);refine aW (v:=.sl σ.heap.length 1 b' off' (0+1) cap') (w':=w') ?_ (hk _ _ _ (h4 b' off' cap') ?_)
        ·rw[hrunb];simp only[slA] at hrun;simp only[builtin,List.map_toArray,List.map_cons,List.map_nil,e1,e2,SV.den,slA,Sem.run_bind,hrun,Result.andThen_ok,Sem.run_pure]
        ·rw[fJ,aA];exact hs'
       ·rename_i hh nn b off n cap;split at h4
        ·rename_i T k' nn' b' off' cap' n' l hc2;obtain⟨rfl,rfl,rfl,rfl,rfl,rfl,rfl,o1,h5⟩:=h4;rw[hS.cm] at o1;simp only[cmStd,decide_eq_true_eq] at o1;rw[show cC.na n 1=n+1 from rfl,Int.ofNat_eq_natCast] at o1;have o3:n+1≤4294967296:=by omega
         obtain⟨b',off',cap',w',hrun,hs'⟩:=qY (ty:=o.type) hu hux hi hz hsz hzc hb (qA hc2 hm.2.2) hcell o3;refine aW (v:=.sl hh 1 b' off' (n+1) cap') (w':=w') ?_ (hk _ _ _ (h5 b' off' cap') ?_)
         ·rw[hrunb];simp only[builtin,List.map_toArray,List.map_cons,List.map_nil,e1,e2,SV.den,Sem.run_bind,hrun,Result.andThen_ok,Sem.run_pure]
         ·rw[dJ hc2 (by simp),aA];exact hs'
        ·exact h4.elim
       ·exact h4.elim
      ·exact h3.elim
     ·exact h3.elim
    ·exact h.elim
   ·exact h.elim
  ·exact h.elim
 ·exact h.elim
theorem qH {w:World} {t tx ty e e':TypeId} {i:TypeInfo} {z:Value} (ht:P.underlying t=some (.slice e)) (htx:P.underlying tx=some (.slice e')) (hi:P.info? e=some i) (hz:i.zero=some z) (hsz:i.size=1) (hzs:z.cells.size=1) (hby:i.bytes≤32768)
  {nn b off cap n b0:Nat} {l:List (Option Nat)} {y:Option Nat} {A:HProp} (hl:l.length=n) (h:sat w (star (lO e nn b off cap l) A)) (hy:w.cell? ⟨b0,0,none⟩=some (iB y)) (hle:n+1≤4294967296):
  ∃b' off' cap' w',(Builtin.append_ #[t,tx] ty #[.slice (slA nn b off) n cap,.slice (some ⟨b0,0,none⟩) 1 1]).run P w=.ok (.slice (slA 1 b' off') (n+1) cap') w'∧sat w' (star (lO e 1 b' off' cap' (l++[y])) A):=by
 have hlen2:(l++[y]).length=n+1:=by simp[hl]
 have hsrc:Src P i.size tx (.slice (some ⟨b0,0,none⟩) 1 1) 1 [iB y] w:=by
  rw[hsz];refine Src.ofSlice w htx _ _ _ _ rfl (fun j u hj=>?_) (fun u hu=>by simp at hu;subst hu;cases y<;>rfl);cases j with
  |zero=>simp at hj;subst hj;simpa [Addr.add] using hy|succ j=>simp at hj
 by_cases hroom:n+1≤cap
 ·cases nn with
  |zero=>obtain⟨⟨_,rfl⟩,_⟩:=aB.1 h;omega
  |succ nn=>
   simp only[lO] at h;rw[aL] at h;obtain⟨N,h⟩:=h;simp only[aA] at h;obtain⟨⟨h2,h3⟩,h⟩:=aB.1 h;rw[hl] at h2 h;have h4:=aI (B:=star (bU (nn+1) b off n cap) (star (hdr b e N) (star (aG true b off (l.map iB)) A))) h (by ac_rfl);simp only[bU] at h4;rw[aL] at h4;obtain⟨us,h4⟩:=h4;rw[aA] at h4;obtain⟨hus,h4⟩:=aB.1 h4;obtain⟨u,us,rfl⟩:∃u us',us=u::us':=by
    cases us with
    |nil=>simp at hus;omega|cons u us=>exact⟨u,us,rfl⟩
   have hc:=aX (u::us) (off+n) h4 0 u rfl;have hrun:=run_append_room_src (P:=P) w t tx ty e i ht hi b off n cap (.slice (some ⟨b0,0,none⟩) 1 1) 1 [iB y] hsrc hroom
    (fun j hj=>by simp at hj;subst hj;rw[hsz,Nat.mul_one,hc.1];rfl)
    (fun j hj=>by simp at hj;subst hj;rw[hsz,Nat.mul_one];exact hc.2)
   rw[hsz,Nat.mul_one] at hrun;refine⟨b,off,cap,_,hrun,?_⟩;have h5:=iA [iB y] (u::us) (off+n) w h4 (by simp);refine sX (N:=N) (by omega) (by simp;omega) h3 ?_;rw[hlen2];simp only[List.map_append,List.map_cons,List.map_nil,bJ,List.length_map,hl];have key:sat (w.setCells b (off+n) [iB y]) (star (exi (fun vs:List Value=>star (pure' (n+1+vs.length=cap)) (aG true b (off+(n+1)) vs))) (star (aG true b (off+n) [iB y]) (star (hdr b e N) (star (aG true b off (l.map iB)) A)))):=by rw[aL];refine⟨us,?_⟩;rw[aA];refine aB.2 ⟨by simp at hus;omega,?_⟩;simp only[List.length_cons,List.length_nil,List.drop_succ_cons,List.drop_zero,bJ,Nat.zero_add] at h5;rw[show off+(n+1)=off+n+1 by omega];simp only[aA] at h5;exact aI h5 (by ac_rfl)
   simp only[bU];exact aI key (by ac_rfl)
 ·have hfit:Builtin.nextslicecap (n+1) cap*i.bytes≤281474976710656:=by
   have hcl:cap≤4294967296:=by omega
   have h1:=nextslicecap_le (need:=n+1) (old:=cap) (by omega)
   calc _≤(2*4294967296)*32768:=Nat.mul_le_mul (by omega) hby
    _≤_:=by decide
  have hold:(Builtin.firstCells i.size n (.slice (slA nn b off) n cap)).run P w.drew=.ok (l.map iB).toArray w.drew:=by
   rw[hsz];cases nn with
   |zero=>obtain⟨⟨rfl,rfl⟩,_⟩:=aB.1 h;subst hl;exact run_firstCells_none w.drew 1 0 0 0
   |succ nn=>simp only[lO] at h;rw[aL] at h;obtain⟨N,h⟩:=h;simp only[aA] at h;obtain⟨⟨h2,h3⟩,h⟩:=aB.1 h;rw[hl] at h2 h;have h4:=aI (B:=star (aG true b off (l.map iB)) (star (hdr b e N) (star (bU (nn+1) b off n cap) A))) h (by ac_rfl);refine run_firstCells_some w.drew 1 n ⟨b,off,none⟩ n cap _ (by simp;omega) (fun j u hu=>?_);rw[Addr.add_lit];exact(aX _ off h4 j u hu).1
  have hrun:=run_append_grow_src (P:=P) w t tx ty e i z ht hi hz (slA nn b off) n cap (l.map iB) hold (.slice (some ⟨b0,0,none⟩) 1 1) 1 [iB y] hsrc (by omega) (by omega) hfit;refine⟨w.heap.size,0,grownCap w (n+1) cap e,_,hrun,?_⟩;have hA:sat w.drew A:=eU rfl h.snd;have hg:=grownCap_ge w (n+1) cap e;have h2:=eX (w:=w.drew) true ((l.map iB++[iB y])++(Builtin.zeroCells z.cells (grownCap w (n+1) cap e-(n+1))).toList) e hA;have hzl:(Builtin.zeroCells z.cells (grownCap w (n+1) cap e-(n+1))).toList.length=grownCap w (n+1) cap e-(n+1):=by simp[Builtin.zeroCells,hzs]
  rw[bJ] at h2;generalize hzz:(Builtin.zeroCells z.cells (grownCap w (n+1) cap e-(n+1))).toList=zs at h2 hzl;have harr:(l.map iB++[iB y]).toArray++Builtin.zeroCells z.cells (grownCap w (n+1) cap e-(n+1))=((l.map iB++[iB y])++zs).toArray:=by rw[←hzz];apply Array.ext';simp
  rw[harr];have hll:(l.map iB++[iB y]).length=n+1:=by simp[hl]
  rw[hll,show w.drew.heap.size=w.heap.size from rfl] at h2;refine sX (N:=((l.map iB++[iB y])++zs).length) (by omega) (by simp[hl];omega) (by rw[List.length_append,hll];omega) ?_;have key:sat (w.drew.alloc (.cells ((l.map iB++[iB y])++zs).toArray e)) (star (exi (fun vs:List Value=>star (pure' (n+1+vs.length=grownCap w (n+1) cap e)) (aG true w.heap.size (0+(n+1)) vs))) (star (aG true w.heap.size 0 (l.map iB++[iB y])) (star (hdr w.heap.size e ((l.map iB++[iB y])++zs).length) A))):=by rw[aL];refine⟨zs,?_⟩;rw[aA];refine aB.2 ⟨by omega,?_⟩;simp only[aA] at h2;exact aI h2 (by ac_rfl)
  simp only[bU,hlen2,List.map_append,List.map_cons,List.map_nil];exact aI key (by ac_rfl)
def BY (ts:List TypeId):Bool:=match ts with
 |[t,_]=>match TT t with
  |some ⟨_,_,_,.slice e⟩=>match TT e with
   |some ⟨1,_,_,.ptr _⟩=>true|_=>false
  |_=>false
 |_=>false
def xZ (args:List Operand) (ts:List TypeId) (σ:St Pay) (K:SV→List C→Prop):Prop:=match args,ts with
 |[s,x],[t,tx]=>match TT t with
  |some ⟨_,_,_,.slice e⟩=>match TT e with
   |some ⟨1,_,z,.ptr _⟩=>match TT tx with
    |some ⟨_,_,_,.slice _⟩=>(z.den.cells.size=1)∧(ev s).goK σ [] fun v _=>(ev x).goK σ [] fun u _=>match u with
     |.hv q (.slice (some ⟨b0,0,none⟩) 1 1)=>match σ.heap.getD q .nil with
      |.raw _ b0' _ [.ptr _ y 0]=>b0=b0'∧match v with
       |.v (.slice none 0 0)=>∀b2 off2 cap2:Nat,K (.sl σ.heap.length 1 b2 off2 1 cap2) (σ.heap++[.prd (.mo e 1 b2 off2 cap2 [some y])])|.sl h nn b off n cap=>match σ.heap.getD h .nil with
        |.prd (.mo T nn' b' off' cap' ps)=>nn=nn'∧b=b'∧off=off'∧cap=cap'∧ps.length=n∧T=e∧Nat.ble n 1000=true∧
          ∀b2 off2 cap2:Nat,K (.sl h 1 b2 off2 (n+1) cap2) (σ.heap.set h (.prd (.mo e 1 b2 off2 cap2 (ps++[some y]))))
        |_=>False
       |_=>False
      |_=>False
     |_=>False
    |_=>False
   |_=>False
  |_=>False
 |_,_=>False
theorem BO (hS:Std P TT AR CM SE) (hby:∀t i,(TT t).isSome=true→P.info? t=some i→i.bytes≤32768) {F:HProp} (o:Oper) (args:Array Operand) (ts:Array TypeId) (ho:o.op=.call ⟨.builtin .append,args,ts⟩):
  cE P F o (xZ TT args.toList ts.toList):=by
 intro σ a w next Q K hm h hout hk
 obtain⟨args⟩:=args;obtain⟨ts⟩:=ts;obtain⟨cs,hrunb⟩:=eB (P:=P) (w:=w) (a:=a) ho;unfold xZ at h;split at h
 ·rename_i s x t tx ea et;simp only at ea et;subst ea;subst et;split at h
  ·rename_i _ _ _ e ht;have hu:=(aS (hS.tt _ _ ht).kind).2.1 _ rfl;split at h
   ·rename_i z k he;have hT:=hS.tt _ _ he;obtain⟨i,hi,hsz,hz⟩:=hT.info;have hb:=hby e i (by rw[he];rfl) hi;split at h
    ·rename_i htx;have hux:=(aS (hS.tt _ _ htx).kind).2.1 _ rfl;simp only[bO] at h;obtain⟨hzc,v,l,h1,u,l',h2,h3⟩:=h;have e1:=aK hm (aR h1);have e2:=aK hm (aR h2);split at h3
     ·rename_i q b0;split at h3
      ·rename_i own b0' T0 hq y hc;obtain⟨rfl,h4⟩:=h3;have hcell:w.cell? ⟨b0,0,none⟩=some (iB (some y)):=(pE (j:=0) hm.2.2 hc rfl).1;split at h4
       ·
        have hs:sat w (star (lO e 0 0 0 0 []) (star (big σ.heap) F)):=by show sat w (star (pure' (([]:List (Option Nat))=[]∧(0:Nat)=0)) _);exact aB.2 ⟨⟨rfl,rfl⟩,hm.2.2⟩
        obtain⟨b',off',cap',w',hrun,hs'⟩:=qH (ty:=o.type) hu hux hi hz hsz hzc hb rfl hs hcell (by simp);refine aW (v:=.sl σ.heap.length 1 b' off' (0+1) cap') (w':=w') ?_ (hk _ _ _ (h4 b' off' cap') ?_)
        ·rw[hrunb];simp only[slA,List.length_nil] at hrun;simp only[builtin,List.map_toArray,List.map_cons,List.map_nil,e1,e2,SV.den,slA,Sem.run_bind,hrun,Result.andThen_ok,Sem.run_pure]
        ·rw[fJ,aA];exact hs'
       ·rename_i hh nn b off n cap;split at h4
        ·rename_i T nn' b' off' cap' l hc2;obtain⟨rfl,rfl,rfl,rfl,hln,rfl,o1,h5⟩:=h4;have o1:=Nat.le_of_ble_eq_true o1;obtain⟨b',off',cap',w',hrun,hs'⟩:=qH (ty:=o.type) hu hux hi hz hsz hzc hb hln (BX hc2 hm.2.2) hcell (by omega);refine aW (v:=.sl hh 1 b' off' (n+1) cap') (w':=w') ?_ (hk _ _ _ (h5 b' off' cap') ?_)
         ·rw[hrunb];simp only[builtin,List.map_toArray,List.map_cons,List.map_nil,e1,e2,SV.den,Sem.run_bind,hrun,Result.andThen_ok,Sem.run_pure]
         ·rw[dJ hc2 (by simp),aA];exact hs'
        ·exact h4.elim
       ·exact h4.elim
      ·exact h3.elim
     ·exact h3.elim
    ·exact h.elim
   ·exact h.elim
  ·exact h.elim
 ·exact h.elim
def sK (args:List Operand) (ts:List TypeId) (σ:St Pay) (K:SV→List C→Prop):Prop:=match BY TT ts with
 |true=>xZ TT args ts σ K|false=>yM TT CM NA MM args ts σ K
theorem EE (hNA:NA=cC) (hMM:MM=bC) (hS:Std P TT AR CM SE) (hby:∀t i,(TT t).isSome=true→P.info? t=some i→i.bytes≤32768) {F:HProp} (o:Oper) (args:Array Operand) (ts:Array TypeId) (ho:o.op=.call ⟨.builtin .append,args,ts⟩):
  cE P F o (sK TT CM NA MM args.toList ts.toList):=by
 cases hp:BY TT ts.toList with
 |true=>
  have h:=BO TT CM hS hby (F:=F) o args ts ho;have e:sK TT CM NA MM args.toList ts.toList=xZ TT args.toList ts.toList:=by funext σ K;simp only[sK,hp]
  rw[e];exact h
 |false=>
  have h:=ES TT CM NA MM hNA hMM hS hby (F:=F) o args ts ho;have e:sK TT CM NA MM args.toList ts.toList=yM TT CM NA MM args.toList ts.toList:=by funext σ K;simp only[sK,hp]
  rw[e];exact h
theorem MB (hMM:MM=bC) {w:World} {tx e':TypeId} (htx:P.underlying tx=some (.slice e')) {nn b off cap:Nat} {f:FV} {k:IntKind} {m:Nat} {l:List Int} {A:HProp} (hf:MJ MM f=some (k,m,l)) (h:sat w (star (f.row nn b off cap) A)):
  Src P 1 tx (.slice (slA nn b off) m cap) m (l.map (Value.int k)) w:=by
 subst hMM;unfold MJ at hf;split at hf
 ·rename_i T k' n' l';simp only[Option.some.injEq,Prod.mk.injEq] at hf;obtain⟨rfl,rfl,rfl⟩:=hf;simp only[FV.row,aA] at h;obtain⟨hl,h⟩:=aB.1 h;exact zA htx (by simp[hl]) (by omega) h (fun u hu=>by obtain⟨_,_,rfl⟩:=List.mem_map.1 hu;rfl)
 ·rename_i T n' l';simp only[Option.some.injEq,Prod.mk.injEq] at hf;obtain⟨rfl,rfl,rfl⟩:=hf;simp only[FV.row,aA] at h;obtain⟨⟨hn,hl⟩,hr⟩:=aB.1 h;clear h;cases nn with
  |zero=>exact absurd rfl hn|succ nn=>
   have e:(bC.by' l').map (Value.int .u8)=AQ l':=by simp[bC,AQ]
   rw[e];refine Src.ofSlice w htx _ _ _ _ (by simp[AQ,hl]) (fun j u hj=>?_) (fun u hu=>by obtain⟨_,_,rfl⟩:=List.mem_map.1 hu;rfl);rw[Addr.add_lit];exact eW hr j u hj
 ·cases hf
theorem zR (hMM:MM=bC) (hS:Std P TT AR CM SE) {F:HProp} (o:Oper) (args:Array Operand) (ts:Array TypeId) (ho:o.op=.call ⟨.builtin .copy,args,ts⟩):cE P F o (xT TT MM args.toList ts.toList):=by
 intro σ a w next Q K hm h hout hk
 obtain⟨args⟩:=args;obtain⟨ts⟩:=ts;obtain⟨cs,hrunb⟩:=eB (P:=P) (w:=w) (a:=a) ho;unfold xT at h;split at h
 ·rename_i s x t tx ea et;simp only at ea et;subst ea;subst et;split at h
  ·rename_i _ _ _ e ht;have hu:=(aS (hS.tt _ _ ht).kind).2.1 _ rfl;split at h
   ·rename_i k he;have hT:=hS.tt _ _ he;have hsz:=hT.run_sizeOf w;simp only at hsz;split at h
    ·rename_i htx;have hux:=(aS (hS.tt _ _ htx).kind).2.1 _ rfl;simp only[bO] at h;obtain⟨v,l,h1,u,l',h2,h3⟩:=h;have e1:=aK hm (aR h1);have e2:=aK hm (aR h2);split at h3
     ·rename_i hh nn b off n cap;split at h3
      ·rename_i hh2 nn2 b2 off2 n2 cap2;split at h3
       ·rename_i T k' nn' b' off' cap' n' l hc;split at h3
        ·rename_i sp nn2' b2' off2' cap2' f hc2;split at h3
         ·rename_i k2 m2 l2 hf;obtain⟨rfl,rfl,rfl,rfl,rfl,rfl,rfl,rfl,rfl,rfl,rfl,rfl,rfl,hnn,h5⟩:=h3;have hsrc:=MB (P:=P) MM hMM hux hf (bY hc2 hm.2.2);have hl2:l2.length=n:=by have:=hsrc.newsLen;simpa using this
          obtain⟨N,hl,hcap,hN,hs⟩:∃N,l.length=n∧n≤cap∧off+cap≤N∧sat w (star (aG true b off (l.map (Value.int k2))) (star (hdr b T N) (star (bU nn b off n cap) (star (big (σ.heap.set hh .nil)) F)))):=by
           have:=qA hc hm.2.2;cases nn with
           |zero=>exact absurd rfl hnn|succ nn=>simp only[iG] at this;rw[aL] at this;obtain⟨N,this⟩:=this;simp only[aA] at this;obtain⟨⟨h1,h2,h3⟩,this⟩:=aB.1 this;exact⟨N,h1,h2,h3,aI this (by ac_rfl)⟩
          have hst:=run_storeCells_cells (P:=P) b off (l2.map (Value.int k2)) 0 w
           (fun j hj=>by
            have hj':j<l.length:=by simp at hj;omega
            have:=(aX _ off hs j (.int k2 l[j]) (by rw[List.getElem?_map,List.getElem?_eq_getElem hj'];rfl)).1
            rw[Nat.add_zero,this];rfl)
           (fun j hj=>by
            have hj':j<l.length:=by simp at hj;omega
            have:=(aX _ off hs j (.int k2 l[j]) (by rw[List.getElem?_map,List.getElem?_eq_getElem hj'];rfl)).2
            rw[Nat.add_zero];exact this) hsrc.one
          have hset:=iA (l2.map (Value.int k2)) _ off w hs (by simp;omega);refine aW (v:=.i .i64 (Int.ofNat n)) (w':=w.setCells b off (l2.map (Value.int k2))) ?_ (hk _ _ _ h5 ?_)
          ·rw[hrunb];cases nn with
           |zero=>exact absurd rfl hnn|succ nn=>have hlen:=hsrc.len w;have hcl:=hsrc.cells;simp only[Nat.add_zero] at hst;simp[builtin,Builtin.copy_,run_underlying hu,e1,e2,SV.den,slA,hlen,hsz,hst,goInt] at hcl hlen⊢;simp[hlen,hcl,hst]
          ·rw[dJ hc (by simp),aA];refine iE hnn hl2 hcap hN ?_;have:(l.map (Value.int k2)).drop (l2.map (Value.int k2)).length=[]:=by
            rw[List.drop_eq_nil_of_le];simp;omega
           rw[this,List.append_nil] at hset;exact hset
         ·exact h3.elim
        ·exact h3.elim
       ·exact h3.elim
      ·exact h3.elim
     ·exact h3.elim
    ·exact h.elim
   ·exact h.elim
  ·exact h.elim
 ·exact h.elim
theorem tA (T:TypeId) (k:IntKind) (sp:Bool) (nn b off cap n:Nat) (l:List Int):eF [.prd (.mr T k nn b off cap n l)] (.prd (.sl sp nn b off cap (.ul T k n l))):=by
 refine⟨fun w F h=>?_⟩;simp only[big,aO] at h;have h:sat w (star (iG T k nn b off cap n l) F):=h;show sat w (star (star (FV.row nn b off cap (.ul T k n l)) (eM sp (bU nn b off (n*1) (cap*1)))) F);rw[Nat.mul_one,Nat.mul_one];have hsp:∀A,sat w (star (bU nn b off n cap) A)→sat w (star (eM sp (bU nn b off n cap)) A):=by
  intro A h;cases sp with
  |true=>exact h|false=>simp only[eM,aH];exact h.snd
 cases nn with
 |zero=>obtain⟨⟨rfl,rfl,rfl⟩,h'⟩:=aB.1 h;simp only[FV.row,slR,aA];refine aB.2 ⟨rfl,aB.2 ⟨by simp,hsp _ ?_⟩⟩;simp only[bU,aH];exact h'
 |succ nn=>
  obtain⟨N,h1,h2,h3,h⟩:∃N,l.length=n∧n≤cap∧off+cap≤N∧sat w (star (aG true b off (l.map (Value.int k))) (star (hdr b T N) (star (bU (nn+1) b off n cap) F))):=by simp only[iG] at h;rw[aL] at h;obtain⟨N,h⟩:=h;simp only[aA] at h;obtain⟨⟨h1,h2,h3⟩,h⟩:=aB.1 h;exact⟨N,h1,h2,h3,aI h (by ac_rfl)⟩
  have h4:=eT _ _ h;have h5:=hsp _ (aI (B:=star (bU (nn+1) b off n cap) (star (aG false b off (l.map (Value.int k))) (star (hdr b T N) F))) h4 (by ac_rfl));simp only[FV.row,slR,aA];refine aB.2 ⟨h1,?_⟩;rw[rowD,aL];refine⟨N,?_⟩;rw[aA];refine aB.2 ⟨⟨by simpa using h3,by simp;omega⟩,?_⟩;exact aI h5 (by simp only[dH];ac_rfl)
theorem FG (T:TypeId) (nn b off cap n:Nat) (l:List UInt8):eF [.prd (.mr T .u8 (nn+1) b off cap n (bC.by' l))] (.prd (.sl false (nn+1) b off cap (.bys T n (some l)))):=by
 refine⟨fun w F h=>?_⟩;have h:=(tA T .u8 false (nn+1) b off cap n (bC.by' l)).ent w F h;have h:sat w (star (star (FV.row (nn+1) b off cap (.ul T .u8 n (bC.by' l))) emp) F):=h;show sat w (star (star (FV.row (nn+1) b off cap (.bys T n (some l))) emp) F);rw[aO] at h⊢;simp only[FV.row,aA] at h⊢;obtain⟨h1,h⟩:=aB.1 h;have e:(bC.by' l).map (Value.int .u8)=AQ l:=by simp[bC,AQ]
 rw[e] at h;refine aB.2 ⟨⟨by omega,by simpa [bC] using h1⟩,?_⟩;simpa [slR] using h
theorem bN (b:Nat) (T:TypeId) (l1 l2:MQ) (n:Int) (blk:Nat) (cs ds:List SV) (it:Option (Nat×Option Int×List Int)) (hd:SV.dens cs=SV.dens ds):
  eF [.prd (.mp b (.ptrs T (l1++(n,blk,none)::l2)) it),.raw true blk T cs] (.prd (.mp b (.ptrs T (l1++(n,blk,some ds)::l2)) it)):=by
 refine⟨fun w F h=>?_⟩;simp only[big,aO] at h;have hcs:cs.length=ds.length:=by have:=congrArg List.length hd;simpa [bD] using this
 have h:sat w (star (dA b (.ptrs T (l1++(n,blk,none)::l2)) it) (star (star (hdr blk T cs.length) (aG true blk 0 (SV.dens cs))) F)):=aI h (by simp only[Cel.den,PayDen.den];ac_rfl);rw[hcs,hd] at h;show sat w (star (dA b (.ptrs T (l1++(n,blk,some ds)::l2)) it) F);rw[dA,aL] at h⊢;obtain⟨⟨es,clock⟩,h⟩:=h;refine⟨(es,clock),?_⟩;simp only[aA] at h⊢;obtain⟨hE,h⟩:=aB.1 h;refine aB.2 ⟨mZ hE,?_⟩;rw[pY];exact aI h (by simp only[Cel.den];ac_rfl)
theorem vG (b:Nat) (l l':List Int) (it:Option (Nat×Option Int×List Int)) (h:l.Perm l'):eF [.prd (.mp b (.set l) it)] (.prd (.mp b (.set l') it)):=by refine⟨fun w F hs=>?_⟩;simp only[big,aO] at hs;have hs:sat w (star (dA b (.set l) it) F):=hs;show sat w (star (dA b (.set l') it) F);rw[dA,aL] at hs⊢;obtain⟨⟨es,clock⟩,hs⟩:=hs;refine⟨(es,clock),?_⟩;simp only[aA] at hs⊢;obtain⟨hE,hs⟩:=aB.1 hs;exact aB.2 ⟨⟨hE.m.trans (h.map _),h.nodup hE.nd,hE.nb,hE.lt⟩,hs⟩
theorem dR (b:Nat) (k:MK) (it:Option (Nat×Option Int×List Int)):eF [.prd (.mp b k it)] (.prd (.mp b k none)):=by refine⟨fun w F h=>?_⟩;simp only[big,aO] at h;have h:sat w (star (dA b k it) F):=h;show sat w (star (dA b k none) F);obtain⟨es,clock,hE,hb,hs⟩:=iO h;exact qD hE ((aI (B:=star (iS b es clock it) (star (pts (b,none) (.ob (.map es clock))) (star k.own F))) hs (by ac_rfl)).snd)
theorem AA (hS:Std P TT AR CM SE) {F:HProp} (o:Oper) (t:TypeId) (x i:Operand) (ho:o.op=.index t x i):cE P F o (wT TT t x i):=by
 intro σ a w next Q K hm h hout hk
 unfold wT at h;split at h
 ·rename_i _ _ _ n e ht;have hu:=(aS (hS.tt _ _ ht).kind).2.2.2.2.2.2.2.2.1 _ _ rfl;split at h
  ·rename_i he;have hT:=hS.tt _ _ he;have hsz:=hT.run_sizeOf w;have hag:=hT.run_isAgg w;simp only at hsz hag;simp only[bO] at h;obtain⟨v,l,h1,u,l',h2,h3⟩:=h;have e1:=aK hm (aR h1);have e2:=aK hm (aR h2);split at h3
   ·rename_i cs;split at h3
    ·rename_i k m;split at h3
     ·rename_i y hy;obtain⟨hlt,h4⟩:=h3;have hlt:=Nat.le_of_ble_eq_true hlt;refine aW (v:=y) (w':=w) ?_ (hk _ _ _ h4 hm.2.2);have hd:(SV.dens cs).toArray[m]?=some y.den:=by rw[cH];simp[hy]
      have h0:(0:Int)≤(m:Int)∧(m:Int)<(n:Int):=⟨by omega,by omega⟩;simp only[execOp,ho,e1,e2,SV.den,Instr.index,asIntOf,Sem.run_bind,Sem.run_pure,Result.andThen_ok,run_underlying hu,Int.ofNat_eq_natCast,h0,and_self,if_true,hsz,Int.toNat_natCast,Nat.mul_one];simp[part,hag,hsz,hd]
     ·exact h3.elim
    ·exact h3.elim
   ·exact h3.elim
  ·exact h.elim
 ·rename_i _ _ _ ht;have hu:=(aS (hS.tt _ _ ht).kind).2.2.2.2.2.2.1 rfl;simp only[bO] at h;obtain⟨v,l,h1,u,l',h2,h3⟩:=h;have e1:=aK hm (aR h1);have e2:=aK hm (aR h2);split at h3
  ·rename_i s;split at h3
   ·rename_i k m;obtain⟨⟨h4,h5⟩,h6⟩:=h3;have hlt:m.toNat<s.size:=by omega
    refine aW (v:=.i .u8 (s[m.toNat].toNat:Int)) (w':=w) ?_ (hk _ _ _ (h6 _ ⟨by omega,by have:=s[m.toNat].toNat_lt;omega⟩) hm.2.2);have hg:s[m.toNat]?=some s[m.toNat]:=getElem?_pos s m.toNat hlt;simp only[execOp,ho,e1,e2,SV.den,Instr.index,asIntOf,Sem.run_bind,Sem.run_pure,Result.andThen_ok,run_underlying hu,h4,if_true,hg]
   ·exact h3.elim
  ·exact h3.elim
 ·exact h.elim
end
end Go.Sx
