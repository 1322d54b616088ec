import Derived.Calls
import Derived.Deep.AppendSrc
import Derived.Laws.Cells
import Derived.Laws.Small
import Derived.Maps.RangeRun
import Derived.Orders
import Derived.Tactics
import Derived.WalkSpells
set_option autoImplicit true
set_option relaxedAutoImplicit true
set_option linter.all false
set_option maxRecDepth 100000
set_option maxHeartbeats 4000000
namespace Go.Sx
open Go
inductive Cn where
 |val (v:Value)|hdr (T:TypeId) (n:Nat)|ob (o:Obj)|old (o:Obj) (w₀:World)
abbrev pX:=Nat×Option Nat
abbrev Hp:=pX→Option Cn
def mT:Obj→Bool
 |.cells .. =>true|_=>false
def iK:Obj→Nat
 |.cells c _ _=>c.size|_=>0
def has (w:World):pX→Cn→Prop
 |(b,some k),.val v=>w.cell? ⟨b,k,none⟩=some v∧w.frozen? ⟨b,k,none⟩=false|(b,none),.hdr T n=>∃c T' fr,w.heap[b]?=some (.cells c T' fr)|(b,none),.ob o=>w.heap[b]?=some o∧mT o=false|(b,some k),.old o w₀=>w.heap[b]?=some o∧k=iK o∧w.os=w₀.os∧w.output=w₀.output∧w.tape=w₀.tape|_,_=>False
def Sub (i j:Hp):Prop:=∀l c,i l=some c→j l=some c
def Dj (m n:Hp):Prop:=∀l,m l=none∨n l=none
def un (m n:Hp):Hp:=fun l=>match m l with|some c=>some c|none=>n l
def cG:Hp:=fun _=>none
def dC (l:pX) (c:Cn):Hp:=fun k=>if k=l then some c else none
theorem Sub.refl (i:Hp):Sub i i:=fun _ _ h=>h
theorem Sub.trans {i j k:Hp} (h:Sub i j) (h':Sub j k):Sub i k:=fun l c e=>h' l c (h l c e)
structure HProp where
 h:Hp→Hp→Prop
 mono:∀{m i j},Sub i j→h m i→h m j
theorem HProp.ext' {A B:HProp} (e:∀m i,A.h m i↔B.h m i):A=B:=by cases A;cases B;congr;funext m i;exact propext (e m i)
def star (A B:HProp):HProp where
 h:=fun m i=>∃m₁ m₂,Dj m₁ m₂∧m=un m₁ m₂∧A.h m₁ i∧B.h m₂ i
 mono:=fun s ⟨m₁,m₂,d,e,a,b⟩=>⟨m₁,m₂,d,e,A.mono s a,B.mono s b⟩
def emp:HProp where
 h:=fun m _=>m=cG
 mono:=fun _ e=>e
def pure' (p:Prop):HProp where
 h:=fun m _=>m=cG∧p
 mono:=fun _ e=>e
def pts (l:pX) (c:Cn):HProp where
 h:=fun m _=>m=dC l c
 mono:=fun _ e=>e
def ipts (l:pX) (c:Cn):HProp where
 h:=fun m i=>m=cG∧i l=some c
 mono:=fun s ⟨e,h⟩=>⟨e,s _ _ h⟩
def exi {α:Type} (A:α→HProp):HProp where
 h:=fun m i=>∃x,(A x).h m i
 mono:=fun s ⟨x,h⟩=>⟨x,(A x).mono s h⟩
theorem Dj.symm {m n:Hp} (h:Dj m n):Dj n m:=fun l=>(h l).symm
theorem H3 {m n:Hp} (h:Dj m n):un m n=un n m:=by funext l;simp only[un];rcases h l with h|h<;>simp only[h]<;>split<;>simp_all
theorem vX (a b c:Hp):un (un a b) c=un a (un b c):=by funext l;simp only[un];cases a l<;>simp
theorem cQ (m:Hp):un cG m=m:=by funext l;simp[un,cG]
theorem cB {a b c:Hp}:Dj (un a b) c↔Dj a c∧Dj b c:=by
 constructor
 ·intro h;refine⟨fun l=>?_,fun l=>?_⟩
  ·rcases h l with h|h
   ·left;simp only[un] at h;split at h<;>simp_all
   ·exact .inr h
  ·rcases h l with h|h
   ·left;simp only[un] at h;split at h<;>simp_all
   ·exact .inr h
 ·rintro⟨h,h'⟩ l;rcases h l with h|h
  ·rcases h' l with h'|h'
   ·left;simp[un,h,h']
   ·exact .inr h'
  ·exact .inr h
theorem oH {a b c:Hp}:Dj a (un b c)↔Dj a b∧Dj a c:=by
 constructor
 ·intro h;have:=cB.1 h.symm;exact⟨this.1.symm,this.2.symm⟩
 ·rintro⟨h,h'⟩;exact(cB.2 ⟨h.symm,h'.symm⟩).symm
theorem fV (A B:HProp):star A B=star B A:=by apply HProp.ext';intro m i;constructor<;>(rintro⟨m₁,m₂,d,rfl,a,b⟩;exact⟨m₂,m₁,d.symm,H3 d,b,a⟩)
theorem aA (A B C:HProp):star (star A B) C=star A (star B C):=by
 apply HProp.ext';intro m i;constructor
 ·rintro⟨m₁,m₃,d,rfl,⟨m₁,m₂,d',rfl,a,b⟩,c⟩;have ⟨d1,d2⟩:=cB.1 d;exact⟨m₁,un m₂ m₃,oH.2 ⟨d',d1⟩,vX ..,a,m₂,m₃,d2,rfl,b,c⟩
 ·rintro⟨m₁,m₂,d,rfl,a,m₂,m₃,d',rfl,b,c⟩;have ⟨d1,d2⟩:=oH.1 d;exact⟨un m₁ m₂,m₃,cB.2 ⟨d2,d'⟩,(vX ..).symm,⟨m₁,m₂,d1,rfl,a,b⟩,c⟩
theorem aM (A B C:HProp):star A (star B C)=star B (star A C):=by rw[←aA,fV A B,aA]
theorem aH (A:HProp):star emp A=A:=by
 apply HProp.ext';intro m i;constructor
 ·rintro⟨m₁,m₂,d,rfl,rfl,a⟩;rw[cQ];exact a
 ·intro a;exact⟨cG,m,fun l=>.inl rfl,(cQ m).symm,rfl,a⟩
theorem aO (A:HProp):star A emp=A:=by rw[fV,aH]
def eD (A B:HProp):Prop:=∀m i,A.h m i→B.h m i
theorem eD.refl (A:HProp):eD A A:=fun _ _ h=>h
theorem eD.trans {A B C:HProp} (h:eD A B) (h':eD B C):eD A C:=fun m i a=>h' m i (h m i a)
theorem eD.star {A B C D:HProp} (h:eD A B) (h':eD C D):eD (star A C) (star B D):=
 fun _ _ ⟨m₁,m₂,d,e,a,c⟩=>⟨m₁,m₂,d,e,h _ _ a,h' _ _ c⟩
structure WF (m i:Hp):Prop where
 f1:∀b n o w₀,i (b,some n)=some (.old o w₀)→∀k,m (b,k)=none
 f2:∀l o w₀,m l≠some (.old o w₀)
theorem WF.sub {m m' i:Hp} (f:WF m i) (s:∀l c,m' l=some c→m l=some c):WF m' i:=by
 refine⟨fun b n o w₀ e k=>?_,fun l o w₀ e=>f.f2 l o w₀ (s _ _ e)⟩;cases e2:m' (b,k) with
 |none=>rfl|some c=>have h1:=s _ _ e2;rw[f.f1 _ _ _ _ e k] at h1;cases h1
theorem WF.ne {w:World} {m i:Hp} {b:Nat} {k:Option Nat} {c:Cn} {l:pX} {o:Obj} {w₀:World} (f:WF m i) (hm:m (b,k)=some c)
  (hl:m l=some (.old o w₀)∨i l=some (.old o w₀)) (hh:has w l (.old o w₀)):l.1≠b:=by
 obtain⟨b',k'⟩:=l;cases k' with
 |none=>exact False.elim hh|some n=>
  intro e;have e':b'=b:=e;subst e';rcases hl with hl|hl
  ·exact f.f2 _ _ _ hl
  ·have h1:=f.f1 _ _ _ _ hl k;rw[hm] at h1;cases h1
theorem WF.set {l:pX} {c c':Cn} {m i:Hp} (f:WF (un (dC l c) m) i) (hc:∀o w₀,c'≠.old o w₀):WF (un (dC l c') m) i:=by
 refine⟨fun b n o w₀ e k=>?_,fun l' o w₀ e=>?_⟩
 ·have h1:=f.f1 b n o w₀ e k
  by_cases h:((b,k):pX)=l
  ·simp[un,dC,h] at h1
  ·simpa [un,dC,h] using h1
 ·by_cases h:l'=l
  ·subst h;simp[un,dC] at e;exact hc _ _ e
  ·exact f.f2 l' o w₀ (by simpa [un,dC,h] using e)
def sat (w:World) (A:HProp):Prop:=
 ∃m i,A.h m i∧Dj m i∧(∀l c,(m l=some c∨i l=some c)→has w l c)∧WF m i
theorem sat.mono {w:World} {A B:HProp} (h:sat w A) (e:eD A B):sat w B:=
 let ⟨m,i,a,d,s,f⟩:=h;⟨m,i,e m i a,d,s,f⟩
theorem sat.fst {w:World} {A B:HProp} (h:sat w (star A B)):sat w A:=by
 obtain⟨m,i,⟨m₁,m₂,d,rfl,a,b⟩,dj,s,f⟩:=h;refine⟨m₁,i,a,(cB.1 dj).1,fun l c hc=>s l c (hc.imp (fun h=>?_) id),f.sub fun l c e=>?_⟩
 ·simp[un,h]
 ·simp[un,e]
theorem sat.snd {w:World} {A B:HProp} (h:sat w (star A B)):sat w B:=by rw[fV] at h;exact h.fst
theorem aB {w:World} {p:Prop} {A:HProp}:sat w (star (pure' p) A)↔p∧sat w A:=by
 constructor
 ·intro h;refine⟨?_,h.snd⟩;obtain⟨m,i,⟨m₁,m₂,d,rfl,a,b⟩,dj,s,f⟩:=h;exact a.2
 ·rintro⟨hp,m,i,a,d,s,f⟩;exact⟨m,i,⟨cG,m,fun l=>.inl rfl,(cQ m).symm,⟨rfl,hp⟩,a⟩,d,s,f⟩
theorem aL {w:World} {α:Type} {A:α→HProp} {B:HProp}:sat w (star (exi A) B)↔∃x,sat w (star (A x) B):=by
 constructor
 ·rintro⟨m,i,⟨m₁,m₂,d,rfl,⟨x,a⟩,b⟩,dj,s,f⟩;exact⟨x,_,i,⟨m₁,m₂,d,rfl,a,b⟩,dj,s,f⟩
 ·rintro⟨x,h⟩;exact h.mono (eD.star (fun _ _ a=>⟨x,a⟩) (eD.refl _))
theorem iD {w:World} {l:pX} {c:Cn} {A:HProp} (h:sat w (star (pts l c) A)):has w l c:=by obtain⟨m,i,⟨m₁,m₂,d,rfl,rfl,b⟩,dj,s,f⟩:=h;exact s l c (.inl (by simp[un,dC]))
theorem D1 {w:World} {l:pX} {c:Cn} {A:HProp} (h:sat w (star (ipts l c) A)):has w l c:=by obtain⟨m,i,⟨m₁,m₂,d,rfl,⟨rfl,e⟩,b⟩,dj,s,f⟩:=h;exact s l c (.inr e)
def aU (A:HProp):Prop:=∀m i,A.h m i→m=cG
theorem aU.dup {A:HProp} (h:aU A):star A A=A:=by
 apply HProp.ext';intro m i;constructor
 ·rintro⟨m₁,m₂,d,rfl,a,b⟩;have e:=h _ _ a;subst e;rw[cQ];exact b
 ·intro a;have e:=h _ _ a;subst e;exact⟨cG,cG,fun l=>.inl rfl,by rw[cQ],a,a⟩
theorem BI {w:World} {l:pX} {c:Cn} {A:HProp} (h:sat w (star (pts l c) A)):sat w (star (ipts l c) A):=by
 obtain⟨m,i,⟨m₁,m₂,d,rfl,rfl,b⟩,dj,s,f⟩:=h;have hl:i l=none:=by
  rcases dj l with h|h
  ·simp[un,dC] at h
  ·exact h
 have hm:m₂ l=none:=by
  rcases d l with h|h
  ·simp[dC] at h
  ·exact h
 let j:Hp:=fun k=>if k=l then some c else i k
 have hs:Sub i j:=fun k x e=>by
  by_cases hk:k=l
  ·subst hk;rw[hl] at e;cases e
  ·simp[j,hk,e]
 refine⟨m₂,j,⟨cG,m₂,fun l=>.inl rfl,(cQ _).symm,⟨rfl,by simp[j]⟩,A.mono hs b⟩,fun k=>?_,fun k x hx=>?_,?_⟩
 ·by_cases hk:k=l
  ·subst hk;exact .inl hm
  ·simp only[j,hk,if_false];exact(cB.1 dj).2 k
 ·by_cases hk:k=l
  ·subst hk;rcases hx with hx|hx
   ·rw[hm] at hx;cases hx
   ·simp[j] at hx;subst hx;exact s k c (.inl (by simp[un,dC]))
  ·refine s k x ?_;rcases hx with hx|hx
   ·left;simp[un,dC,hk,hx]
   ·right;simpa [j,hk] using hx
 ·refine⟨fun b' n o w₀ e k=>?_,fun l' o w₀ e=>?_⟩
  ·by_cases hk:((b',some n):pX)=l
   ·simp[j,hk] at e;exact absurd (by simp[un,dC,e]) (f.f2 l o w₀)
   ·have h1:=f.f1 b' n o w₀ (by simpa [j,hk] using e) k;simp only[un] at h1;split at h1
    ·cases h1
    ·exact h1
  ·by_cases hk:l'=l
   ·subst hk;rw[hm] at e;cases e
   ·exact f.f2 l' o w₀ (by simp[un,dC,hk,e])
theorem eU {w w':World} {A:HProp} (e:w'.heap=w.heap) (h:sat w A) (eo:w'.os=w.os:=by rfl) (eu:w'.output=w.output:=by rfl) (et:w'.tape=w.tape:=by rfl):sat w' A:=by obtain⟨m,i,a,d,s,f⟩:=h;refine⟨m,i,a,d,fun l c hc=>?_,f⟩;have:=s l c hc;obtain⟨b,k⟩:=l;cases k<;>cases c<;>simp_all[has,World.cell?,World.frozen?]
theorem qM {w:World} {l:pX} {c:Cn} (h:has w l c):l.1<w.heap.size:=by
 obtain⟨b,k⟩:=l;have key:∀o,w.heap[b]?=some o→b<w.heap.size:=fun o e=>(Array.getElem?_eq_some_iff.1 e).1;cases k<;>cases c<;>simp only[has] at h
 ·obtain⟨c,T',fr,e⟩:=h;exact key _ e
 ·exact key _ h.1
 ·have h1:=h.1;simp only[World.cell?] at h1;split at h1
  ·rename_i e;exact key _ e
  ·cases h1
 ·exact key _ h.1
theorem oP {w:World} {a:Addr} {v:Value} {b:Nat} (h:b≠a.block):(w.setCell a v).heap[b]?=w.heap[b]?:=by simp[World.setCell,Array.getElem?_modify,Ne.symm h]
theorem iV {w:World} {b k:Nat} {v:Value} {c:Array Value} {T:TypeId} {fr:Nat×Nat} (h:w.heap[b]?=some (.cells c T fr)):
  (w.setCell ⟨b,k,none⟩ v).heap[b]?=some (.cells (c.setIfInBounds k v) T fr):=by
 simp[World.setCell,Array.getElem?_modify,h]
theorem vJ {w:World} {b k:Nat} {v v':Value} {l:pX} {c:Cn} (hb:has w (b,some k) (.val v)) (hne:l≠(b,some k)) (hold:∀o w₀,c=.old o w₀→l.1≠b) (h:has w l c):
  has (w.setCell ⟨b,k,none⟩ v') l c:=by
 obtain⟨b',k'⟩:=l
 by_cases e:b'=b
 ·subst e;have hb1:=hb.1;simp only[World.cell?] at hb1;split at hb1
  case h_2=>cases hb1
  rename_i cs T fr eq;have e2:=iV (k:=k) (v:=v') eq;cases k' with
  |none=>
   cases c<;>simp only[has] at h⊢
   ·exact⟨_,_,_,e2⟩
   ·rw[eq] at h;cases h.1;simp[mT] at h
  |some k'=>
   cases c<;>simp only[has] at h⊢
   ·have hk:k'≠k:=fun e=>hne (by rw[e]);simp only[World.cell?,World.frozen?,eq,e2] at h⊢;rw[Array.getElem?_setIfInBounds_ne (Ne.symm hk)];exact h
   ·exact absurd rfl (hold _ _ rfl)
 ·have e2:=oP (w:=w) (a:=⟨b,k,none⟩) (v:=v') e;cases k'<;>cases c<;>simp only[has] at h⊢
  ·rw[e2];exact h
  ·rw[e2];exact h
  ·simp only[World.cell?,World.frozen?,e2] at h⊢;exact h
  ·rw[e2];exact h
theorem nM {w:World} {b k:Nat} {v v':Value} (hb:has w (b,some k) (.val v)):has (w.setCell ⟨b,k,none⟩ v') (b,some k) (.val v'):=by
 have hb1:=hb.1;have hb2:=hb.2;simp only[World.cell?] at hb1;split at hb1
 case h_2=>cases hb1
 rename_i cs T fr eq;have e2:=iV (k:=k) (v:=v') eq;simp only[has,World.cell?,World.frozen?,e2,eq] at hb1 hb2⊢;refine⟨?_,hb2⟩;simp at hb1⊢;have:k<cs.size:=(Array.getElem?_eq_some_iff.1 hb1).1;simp[this]
theorem nT {w:World} {b k:Nat} {v v':Value} {A:HProp} (h:sat w (star (pts (b,some k) (.val v)) A)):
  sat (w.setCell ⟨b,k,none⟩ v') (star (pts (b,some k) (.val v')) A):=by
 have hb:=iD h;obtain⟨m,i,⟨m₁,m₂,d,rfl,rfl,a⟩,dj,s,f⟩:=h;have d':Dj (dC (b,some k) (.val v')) m₂:=fun l=>by
  rcases d l with h|h
  ·left;simp only[dC] at h⊢;split at h<;>simp_all
  ·exact .inr h
 refine⟨_,i,⟨_,m₂,d',rfl,rfl,a⟩,?_,?_,f.set (by intro _ _ h;cases h)⟩
 ·refine cB.2 ⟨fun l=>?_,(cB.1 dj).2⟩;rcases (cB.1 dj).1 l with h|h
  ·left;simp only[dC] at h⊢;split at h<;>simp_all
  ·exact .inr h
 ·intro l c hc
  by_cases hl:l=(b,some k)
  ·subst hl;have hi:i (b,some k)=none:=by
    rcases (cB.1 dj).1 (b,some k) with h|h
    ·simp[dC] at h
    ·exact h
   rcases hc with hc|hc
   ·simp[un,dC] at hc;subst hc;exact nM hb
   ·rw[hi] at hc;cases hc
  ·have hc2:un (dC (b,some k) (.val v)) m₂ l=some c∨i l=some c:=by
    rcases hc with hc|hc
    ·left;simpa [un,dC,hl] using hc
    ·exact .inr hc
   refine vJ hb hl (fun o w₀ e=>?_) (s l c hc2);subst e;exact f.ne (k:=some k) (c:=.val v) (by simp[un,dC]) hc2 (s l _ hc2)
def aG (own:Bool) (b:Nat):Nat→List Value→HProp
 |_,[]=>emp|k,v::r=>star (if own then pts (b,some k) (.val v) else ipts (b,some k) (.val v)) (aG own b (k+1) r)
theorem BF {w:World} {o:Obj} {l:pX} {c:Cn} (h:has w l c):has {w with heap:=w.heap.push o} l c:=by
 have hlt:=qM h;obtain⟨b,k⟩:=l;have e:(w.heap.push o)[b]?=w.heap[b]?:=by simp only at hlt;rw[Array.getElem?_push];simp[Nat.ne_of_lt hlt]
 cases k<;>cases c<;>simp only[has,World.cell?,World.frozen?,e] at h⊢<;>exact h
def gC (w:World) (b:Nat) (ks:Option Nat→Prop) (A:HProp):Prop:=
 ∃m i,A.h m i∧Dj m i∧(∀l c,(m l=some c∨i l=some c)→has w l c)∧WF m i∧(∀k,ks k→m (b,k)=none∧i (b,k)=none)∧∀n o w₀,i (b,some n)≠some (.old o w₀)
theorem gC.sat {w:World} {b:Nat} {ks:Option Nat→Prop} {A:HProp} (h:gC w b ks A):sat w A:=
 let ⟨m,i,a,d,s,f,_⟩:=h;⟨m,i,a,d,s,f⟩
theorem gC.pts {w:World} {b:Nat} {ks:Option Nat→Prop} {A:HProp} (h:gC w b ks A) (k:Option Nat) (c:Cn) (hk:ks k) (hc:has w (b,k) c) (hn:∀o w₀,c≠.old o w₀:=by intro _ _ h;cases h):
  gC w b (fun x=>ks x∧x≠k) (star (pts (b,k) c) A):=by
 obtain⟨m,i,a,d,s,q,f,g⟩:=h;obtain⟨hm,hi⟩:=f k hk;refine⟨_,i,⟨dC (b,k) c,m,fun l=>?_,rfl,rfl,a⟩,cB.2 ⟨fun l=>?_,d⟩,fun l x hx=>?_,⟨fun b' n o w₀ e k'=>?_,fun l o w₀ e=>?_⟩,fun k' hk'=>?_,g⟩
 ·by_cases hl:l=(b,k)
  ·subst hl;exact .inr hm
  ·left;simp[dC,hl]
 ·by_cases hl:l=(b,k)
  ·subst hl;exact .inr hi
  ·left;simp[dC,hl]
 ·by_cases hl:l=(b,k)
  ·subst hl;rcases hx with hx|hx
   ·simp[un,dC] at hx;subst hx;exact hc
   ·rw[hi] at hx;cases hx
  ·refine s l x ?_;rcases hx with hx|hx
   ·left;simpa [un,dC,hl] using hx
   ·exact .inr hx
 ·by_cases hb:b'=b
  ·subst hb;exact absurd e (g n o w₀)
  ·have hne:((b',k'):pX)≠(b,k):=fun e=>hb (congrArg Prod.fst e);simp[un,dC,hne,q.f1 b' n o w₀ e k']
 ·by_cases hl:l=(b,k)
  ·subst hl;simp[un,dC] at e;exact hn _ _ e
  ·exact q.f2 l o w₀ (by simpa [un,dC,hl] using e)
 ·have:=f k' hk'.1;refine⟨?_,this.2⟩;have hne:((b,k'):pX)≠(b,k):=fun e=>hk'.2 (by simpa using e);simp[un,dC,hne,this.1]
theorem gC.ipts {w:World} {b:Nat} {ks:Option Nat→Prop} {A:HProp} (h:gC w b ks A) (k:Option Nat) (c:Cn) (hk:ks k) (hc:has w (b,k) c) (hn:∀o w₀,c≠.old o w₀:=by intro _ _ h;cases h):
  gC w b (fun x=>ks x∧x≠k) (star (ipts (b,k) c) A):=by
 obtain⟨m,i,a,d,s,q,f,g⟩:=h;obtain⟨hm,hi⟩:=f k hk
 let j:Hp:=fun l=>if l=(b,k) then some c else i l
 have hs:Sub i j:=fun l x e=>by
  by_cases hl:l=(b,k)
  ·subst hl;rw[hi] at e;cases e
  ·simp[j,hl,e]
 refine⟨m,j,⟨cG,m,fun l=>.inl rfl,(cQ _).symm,⟨rfl,by simp[j]⟩,A.mono hs a⟩,fun l=>?_,fun l x hx=>?_,⟨fun b' n o w₀ e k'=>?_,q.f2⟩,fun k' hk'=>?_,fun n o w₀ e=>?_⟩
 ·by_cases hl:l=(b,k)
  ·subst hl;exact .inl hm
  ·simp only[j,hl,if_false];exact d l
 ·by_cases hl:l=(b,k)
  ·subst hl;rcases hx with hx|hx
   ·rw[hm] at hx;cases hx
   ·simp[j] at hx;subst hx;exact hc
  ·refine s l x ?_;rcases hx with hx|hx
   ·exact .inl hx
   ·right;simpa [j,hl] using hx
 ·by_cases hl:((b',some n):pX)=(b,k)
  ·simp only[j,if_pos hl,Option.some.injEq] at e;exact absurd e (hn _ _)
  ·simp only[j,if_neg hl] at e;exact q.f1 b' n o w₀ e k'
 ·have:=f k' hk'.1;have hne:((b,k'):pX)≠(b,k):=fun e=>hk'.2 (by simpa using e);exact⟨this.1,by simp[j,hne,this.2]⟩
 ·by_cases hl:((b,some n):pX)=(b,k)
  ·simp only[j,if_pos hl,Option.some.injEq] at e;exact absurd e (hn _ _)
  ·simp only[j,if_neg hl] at e;exact g n o w₀ e
theorem kE {w:World} {o:Obj} {A:HProp} (h:sat w A):gC {w with heap:=w.heap.push o} w.heap.size (fun _=>True) A:=by
 obtain⟨m,i,a,d,s,q⟩:=h;refine⟨m,i,a,d,fun l c hc=>BF (s l c hc),q,fun k _=>?_,fun n o w₀ e=>absurd (qM (s _ _ (.inr e))) (Nat.lt_irrefl _)⟩;constructor
 ·cases e:m (w.heap.size,k) with
  |none=>rfl|some c=>exact absurd (qM (s _ _ (.inl e))) (Nat.lt_irrefl _)
 ·cases e:i (w.heap.size,k) with
  |none=>rfl|some c=>exact absurd (qM (s _ _ (.inr e))) (Nat.lt_irrefl _)
theorem iL {w:World} {b:Nat} (own:Bool) (A:HProp):∀(vs:List Value) (k:Nat) (ks:Option Nat→Prop),gC w b ks A→
  (∀j,k≤j→j<k+vs.length→ks (some j))→(∀j,(h:j<vs.length)→has w (b,some (k+j)) (.val vs[j]))→
  gC w b (fun x=>ks x∧∀j,x=some j→j<k∨k+vs.length≤j) (star (aG own b k vs) A)
 |[],k,ks,h,_,_=>by obtain⟨m,i,a,d,s,q,f,g⟩:=h;simp only[aG,aH];exact⟨m,i,a,d,s,q,fun x hx=>f x hx.1,g⟩
 |v::vs,k,ks,h,hk,hv=>by
  have ih:=iL own A vs (k+1) ks h (fun j h1 h2=>hk j (by omega) (by simp;omega)) (fun j hj=>by
   have:=hv (j+1) (by simp;omega)
   rw[show k+1+j=k+(j+1) by omega];simpa using this)
  simp only[aG,aA];have h0:=hv 0 (by simp);have hkk:(fun x=>ks x∧∀j,x=some j→j<k+1∨k+1+vs.length≤j) (some k):=⟨hk k (by omega) (by simp),fun j e=>by cases e;omega⟩;cases own
  ·obtain⟨m,i,a,d,s,q,f,g⟩:=ih.ipts (some k) (.val v) hkk h0;refine⟨m,i,a,d,s,q,fun x hx=>f x ⟨⟨hx.1,fun j e=>?_⟩,fun e=>?_⟩,g⟩
   ·have:=hx.2 j e;simp at this;omega
   ·have:=hx.2 k e;simp at this;omega
  ·obtain⟨m,i,a,d,s,q,f,g⟩:=ih.pts (some k) (.val v) hkk h0;refine⟨m,i,a,d,s,q,fun x hx=>f x ⟨⟨hx.1,fun j e=>?_⟩,fun e=>?_⟩,g⟩
   ·have:=hx.2 j e;simp at this;omega
   ·have:=hx.2 k e;simp at this;omega
def hdr (b:Nat) (_T:TypeId) (_n:Nat):HProp:=ipts (b,none) (.hdr 0 0)
theorem eX {w:World} {A:HProp} (own:Bool) (vs:List Value) (T:TypeId) (h:sat w A):
  sat {w with heap:=w.heap.push (.cells vs.toArray T)} (star (star (hdr w.heap.size T vs.length) (aG own w.heap.size 0 vs)) A):=by
 have h1:=kE (o:=.cells vs.toArray T) h;have hb:(w.heap.push (.cells vs.toArray T))[w.heap.size]?=some (.cells vs.toArray T (0,0)):=by simp
 have h2:=iL own A vs 0 _ h1 (fun _ _ _=>trivial) (fun j hj=>by
  simp only[has,World.cell?,World.frozen?,hb]
  simp[hj])
 have h3:=h2.ipts none (.hdr 0 0) ⟨trivial,fun _ e=>by cases e⟩ ⟨_,_,_,hb⟩;rw[aA];exact h3.sat
theorem jF {w:World} {A:HProp} (o:Obj) (ho:mT o=false) (h:sat w A):
  sat {w with heap:=w.heap.push o} (star (pts (w.heap.size,none) (.ob o)) A):=by
 have h1:=kE (o:=o) h;exact(h1.pts none (.ob o) trivial ⟨by simp,ho⟩ (by intro _ _ h;cases h)).sat
theorem AP {w:World} {b:Nat} {o o':Obj} {l:pX} {c:Cn} (hb:has w (b,none) (.ob o)) (hne:l≠(b,none)) (hold:∀o w₀,c=.old o w₀→l.1≠b) (h:has w l c):
  has {w with heap:=w.heap.setIfInBounds b o'} l c:=by
 obtain⟨b',k⟩:=l
 by_cases e:b'=b
 ·subst e;cases k with
  |none=>exact absurd rfl hne|some k=>
   cases c<;>simp only[has] at h
   ·have h1:=h.1;simp only[World.cell?,hb.1] at h1;have:=hb.2;split at h1
    ·rename_i e;cases e;simp[mT] at this
    ·cases h1
   ·exact absurd rfl (hold _ _ rfl)
 ·have e2:(w.heap.setIfInBounds b o')[b']?=w.heap[b']?:=by rw[Array.getElem?_setIfInBounds_ne (Ne.symm e)]
  cases k<;>cases c<;>simp only[has,World.cell?,World.frozen?,e2] at h⊢<;>exact h
theorem nI {w:World} {b:Nat} {o o':Obj} {A:HProp} (ho:mT o'=false) (h:sat w (star (pts (b,none) (.ob o)) A)):
  sat {w with heap:=w.heap.setIfInBounds b o'} (star (pts (b,none) (.ob o')) A):=by
 have hb:=iD h;have hlt:=qM hb;simp only at hlt;obtain⟨m,i,⟨m₁,m₂,d,rfl,rfl,a⟩,dj,s,f⟩:=h;have d':Dj (dC (b,none) (.ob o')) m₂:=fun l=>by
  rcases d l with h|h
  ·left;simp only[dC] at h⊢;split at h<;>simp_all
  ·exact .inr h
 refine⟨_,i,⟨_,m₂,d',rfl,rfl,a⟩,?_,?_,f.set (by intro _ _ h;cases h)⟩
 ·refine cB.2 ⟨fun l=>?_,(cB.1 dj).2⟩;rcases (cB.1 dj).1 l with h|h
  ·left;simp only[dC] at h⊢;split at h<;>simp_all
  ·exact .inr h
 ·intro l c hc
  by_cases hl:l=(b,none)
  ·subst hl;have hi:i (b,none)=none:=by
    rcases (cB.1 dj).1 (b,none) with h|h
    ·simp[dC] at h
    ·exact h
   rcases hc with hc|hc
   ·simp[un,dC] at hc;subst hc;refine⟨?_,ho⟩;simp[hlt]
   ·rw[hi] at hc;cases hc
  ·have hc2:un (dC (b,none) (.ob o)) m₂ l=some c∨i l=some c:=by
    rcases hc with hc|hc
    ·left;simpa [un,dC,hl] using hc
    ·exact .inr hc
   refine AP hb hl (fun o2 w₀ e=>?_) (s l c hc2);subst e;exact f.ne (k:=none) (c:=.ob o) (by simp[un,dC]) hc2 (s l _ hc2)
inductive SV where
 |v (x:Value)|lit (k:IntKind) (n:Int)|i (k:IntKind) (n:Int)|bl (b:Bool)|hv (h:Nat) (x:Value)|ptr (h b off:Nat)|agg (cs:List SV)|tup (vs:List SV)|ifc (t:TypeId) (x:SV)|fn (f:Fn) (first cap:List SV)|sl (h nn b off n cap:Nat)|el (h b off i:Nat)
 deriving Inhabited
def slA (nn b off:Nat):Option Addr:=match nn with
 |0=>none|_+1=>some ⟨b,off,none⟩
mutual
def SV.den:SV→Value
 |.v x=>x|.lit k n=>.int k n|.i k n=>.int k n|.bl b=>.bool b|.hv _ x=>x|.ptr _ b off=>.pointer (some ⟨b,off,none⟩)|.agg cs=>.agg (SV.dens cs).toArray|.tup vs=>.tuple (SV.dens vs).toArray|.ifc t x=>.iface t x.den|.fn f first cap=>.func f (SV.dens first).toArray (SV.dens cap).toArray
 |.sl _ nn b off n cap=>.slice (slA nn b off) n cap|.el _ b off j=>.pointer (some ⟨b,off+j,none⟩)
def SV.dens:List SV→List Value
 |[]=>[]|x::r=>x.den::SV.dens r
end
theorem cH (l:List SV):SV.dens l=l.map SV.den:=by
 induction l with
 |nil=>rfl|cons x r ih=>simp[SV.dens,ih]
theorem bD (l:List SV):(SV.dens l).length=l.length:=by simp[cH]
class PayDen (Pay:Type) where
 den:Pay→HProp
inductive Cel (Pay:Type) where
 |nil|free|raw (own:Bool) (b:Nat) (T:TypeId) (cs:List SV)|prd (p:Pay)
instance {Pay:Type}:Inhabited (Cel Pay):=⟨.nil⟩
def Cel.den {Pay:Type} [PayDen Pay]:Cel Pay→HProp
 |.nil=>emp|.free=>emp|.raw own b T cs=>star (hdr b T cs.length) (aG own b 0 (SV.dens cs))|.prd p=>PayDen.den p
def big {Pay:Type} [PayDen Pay]:List (Cel Pay)→HProp
 |[]=>emp|c::r=>star c.den (big r)
structure St (Pay:Type) where
 tmps:List SV
 heap:List (Cel Pay)
section
variable {Pay:Type} [PayDen Pay]
theorem bF (x y:List (Cel Pay)):big (x++y)=star (big x) (big y):=by
 induction x with
 |nil=>simp[big,aH]|cons c r ih=>simp[big,ih,aA]
theorem sE (n:Nat):big (List.replicate n (Cel.free:Cel Pay))=emp:=by
 induction n with
 |zero=>rfl|succ n ih=>simp[List.replicate_succ,big,ih,Cel.den,aH]
theorem bV (L:List (Cel Pay)) (p:Nat):big L=star ((L.getD p .nil).den) (big (L.set p .nil)):=by
 induction L generalizing p with
 |nil=>simp[big,Cel.den,aH]|cons c r ih=>
  cases p with
  |zero=>simp[big,Cel.den,aH]|succ p=>simp only[big,List.getD_cons_succ,List.set_cons_succ];rw[ih p,aM]
theorem dW (L:List (Cel Pay)) (p:Nat) (c:Cel Pay) (h:p<L.length):big (L.set p c)=star c.den (big (L.set p .nil)):=by have:=bV (L.set p c) p;rw[this];simp[h]
def cD (σ:St Pay) (F:HProp) (a:Act) (w:World):Prop:=
 a.tmps=(SV.dens σ.tmps).toArray∧a.defers=[]∧sat w (star (big σ.heap) F)
end
inductive Key where
 |T (t:Nat)|C (p:Nat)|F (p off:Nat)|S (p:Nat)
 deriving DecidableEq
def Key.hits:Key→Key→Bool
 |.T t,.T u=>t==u|.C p,.C q=>p==q|.C p,.F q _=>p==q|.F p _,.C q=>p==q|.F p o,.F q o'=>p==q&&o==o'|.C p,.S q=>p==q|.S p,.C q=>p==q|_,_=>false
inductive W (Pay:Type) where
 |cel (p:Nat) (c:Cel Pay)|fld (p off:Nat) (x:SV)
def W.key {Pay:Type}:W Pay→Key
 |.cel p _=>.C p|.fld p off _=>.F p off
def Cel.setF {Pay:Type} (off:Nat) (x:SV):Cel Pay→Cel Pay
 |.raw own b T cs=>.raw own b T (cs.set off x)|c=>c
def bW {α:Type} (f:α→α):Nat→List α→List α
 |_,[]=>[]|0,c::r=>f c::r|p+1,c::r=>c::bW f p r
def W.put {Pay:Type}:W Pay→List (Cel Pay)→List (Cel Pay)
 |.cel p c,L=>L.set p c|.fld p off x,L=>bW (Cel.setF off x) p L
def puts {Pay:Type}:List (W Pay)→List (Cel Pay)→List (Cel Pay)
 |[],L=>L|x::r,L=>puts r (x.put L)
structure Delta (Pay:Type) where
 res:SV
 ws:List (W Pay):=[]
 obl:Prop:=True
 fact:Option Prop:=none
def pZ:Option Prop→Prop
 |none=>True|some p=>p
def Delta.factP {Pay:Type} (d:Delta Pay):Prop:=pZ d.fact
inductive SM (Pay:Type) (α:Type) where
 |ret (a:α)|fail|rdT (t:Nat) (k:SV→SM Pay α)|rdC (p:Nat) (k:Cel Pay→SM Pay α)|rdF (p off:Nat) (k:Bool→Nat→TypeId→SV→SM Pay α)|rdS (p:Nat) (k:Bool→SM Pay α)
def Cel.isRaw {Pay:Type}:Cel Pay→Bool
 |.raw _ _ _ _=>true|_=>false
section
variable {Pay α β:Type}
def SM.bind:SM Pay α→(α→SM Pay β)→SM Pay β
 |.ret a,f=>f a|.fail,_=>.fail|.rdT t k,f=>.rdT t fun x=>(k x).bind f|.rdC p k,f=>.rdC p fun x=>(k x).bind f|.rdF p off k,f=>.rdF p off fun o b T x=>(k o b T x).bind f|.rdS p k,f=>.rdS p fun b=>(k b).bind f
def iY (L:List (Cel Pay)) (p off:Nat):Option (Bool×Nat×TypeId×SV):=
 match L.getD p .nil with
 |.raw own b T cs=>match cs[off]? with
  |some x=>some (own,b,T,x)|none=>none
 |_=>none
def SM.go (σ:St Pay):SM Pay α→List Key→Option (α×List Key)
 |.ret a,l=>some (a,l)|.fail,_=>none|.rdT t k,l=>(k (σ.tmps.getD t (.v undef))).go σ (.T t::l)|.rdC p k,l=>(k (σ.heap.getD p .nil)).go σ (.C p::l)|.rdF p off k,l=>match iY σ.heap p off with
  |some (own,b,T,x)=>(k own b T x).go σ (.F p off::l)|none=>none
 |.rdS p k,l=>(k (σ.heap.getD p .nil).isRaw).go σ (.S p::l)
def SM.goK (σ:St Pay):SM Pay α→List Key→(α→List Key→Prop)→Prop
 |.ret a,l,K=>K a l|.fail,_,_=>False|.rdT t k,l,K=>(k (σ.tmps.getD t (.v undef))).goK σ (.T t::l) K|.rdC p k,l,K=>(k (σ.heap.getD p .nil)).goK σ (.C p::l) K|.rdF p off k,l,K=>match σ.heap.getD p .nil with
  |.raw own b T cs=>match cs[off]? with
   |some x=>(k own b T x).goK σ (.F p off::l) K|none=>False
  |_=>False
 |.rdS p k,l,K=>(k (σ.heap.getD p .nil).isRaw).goK σ (.S p::l) K
theorem bO (σ:St Pay) (m:SM Pay α) (l:List Key) (K:α→List Key→Prop):m.goK σ l K↔∃a l',m.go σ l=some (a,l')∧K a l':=by
 induction m generalizing l with
 |ret a=>simp only[SM.goK,SM.go];exact⟨fun h=>⟨a,l,rfl,h⟩,fun⟨_,_,e,h⟩=>by cases e;exact h⟩|fail=>simp[SM.goK,SM.go]|rdT t k ih=>simp only[SM.goK,SM.go];exact ih _ _|rdC p k ih=>simp only[SM.goK,SM.go];exact ih _ _|rdF p off k ih=>
  simp only[SM.goK,SM.go,iY];generalize σ.heap.getD p .nil=c;cases c with
  |raw own b T cs=>
   simp only;cases cs[off]? with
   |none=>simp|some x=>exact ih _ _ _ _ _
  |nil=>simp|free=>simp|prd p=>simp
 |rdS p k ih=>simp only[SM.goK,SM.go];exact ih _ _
def fF (σ σ':St Pay):Key→Prop
 |.T t=>σ.tmps.getD t (.v undef)=σ'.tmps.getD t (.v undef)|.C p=>σ.heap.getD p .nil=σ'.heap.getD p .nil|.F p off=>iY σ.heap p off=iY σ'.heap p off|.S p=>(σ.heap.getD p .nil).isRaw=(σ'.heap.getD p .nil).isRaw
theorem s6 {σ:St Pay} {m:SM Pay α} {l:List Key} {r:α×List Key} (h:m.go σ l=some r):∃n,r.2=n++l:=by
 induction m generalizing l with
 |ret a=>simp[SM.go] at h;subst h;exact⟨[],rfl⟩|fail=>simp[SM.go] at h|rdT t k ih=>simp only[SM.go] at h;obtain⟨n,e⟩:=ih _ h;exact⟨n++[.T t],by simp[e]⟩
 |rdC p k ih=>simp only[SM.go] at h;obtain⟨n,e⟩:=ih _ h;exact⟨n++[.C p],by simp[e]⟩
 |rdF p off k ih=>
  simp only[SM.go] at h;split at h
  ·obtain⟨n,e⟩:=ih _ _ _ _ h;exact⟨n++[.F p off],by simp[e]⟩
  ·cases h
 |rdS p k ih=>simp only[SM.go] at h;obtain⟨n,e⟩:=ih _ h;exact⟨n++[.S p],by simp[e]⟩
theorem uF {σ σ':St Pay} {m:SM Pay α} {l:List Key} {r:α×List Key} (h:m.go σ l=some r) (ha:∀κ∈r.2,fF σ σ' κ):m.go σ' l=some r:=by
 induction m generalizing l with
 |ret a=>simpa [SM.go] using h|fail=>simp[SM.go] at h|rdT t k ih=>simp only[SM.go] at h⊢;obtain⟨n,e⟩:=s6 h;have:=ha (.T t) (by rw[e];simp);simp only[fF] at this;rw[←this];exact ih _ h
 |rdC p k ih=>simp only[SM.go] at h⊢;obtain⟨n,e⟩:=s6 h;have:=ha (.C p) (by rw[e];simp);simp only[fF] at this;rw[←this];exact ih _ h
 |rdF p off k ih=>
  simp only[SM.go] at h⊢;cases hf:iY σ.heap p off with
  |none=>rw[hf] at h;cases h|some x=>obtain⟨own,b,T,x⟩:=x;rw[hf] at h;simp only at h;obtain⟨n,e⟩:=s6 h;have:=ha (.F p off) (by rw[e];simp);simp only[fF] at this;rw[←this,hf];exact ih _ _ _ _ h
 |rdS p k ih=>simp only[SM.go] at h⊢;obtain⟨n,e⟩:=s6 h;have:=ha (.S p) (by rw[e];simp);simp only[fF] at this;rw[←this];exact ih _ h
theorem dB {α:Type} (f:α→α) (d:α):∀(p q:Nat) (L:List α),p≠q→(bW f p L).getD q d=L.getD q d
 |_,_,[],_=>by simp[bW]
 |0,q,c::r,h=>by cases q with|zero=>exact absurd rfl h|succ q=>simp[bW]
 |p+1,q,c::r,h=>by
  cases q with
  |zero=>simp[bW]|succ q=>simp only[bW,List.getD_cons_succ];exact dB f d p q r (by omega)
theorem cM {α:Type} (f:α→α) (d:α):∀(p:Nat) (L:List α),p<L.length→(bW f p L).getD p d=f (L.getD p d)
 |_,[],h=>by simp at h
 |0,c::r,_=>by simp[bW]
 |p+1,c::r,h=>by simp only[bW,List.getD_cons_succ];exact cM f d p r (by simpa using h)
theorem eJ {α:Type} (f:α→α):∀(p:Nat) (L:List α),(bW f p L).length=L.length
 |_,[]=>by simp[bW]
 |0,c::r=>by simp[bW]
 |p+1,c::r=>by simp[bW,eJ f p r]
theorem eZ {α:Type} (f g:α→α):∀(p q:Nat) (L:List α),(p≠q∨∀x,f (g x)=g (f x))→bW f p (bW g q L)=bW g q (bW f p L)
 |_,_,[],_=>by simp[bW]
 |0,0,c::r,h=>by rcases h with h|h;exact absurd rfl h;simp[bW,h]
 |0,q+1,c::r,h=>by simp[bW]
 |p+1,0,c::r,h=>by simp[bW]
 |p+1,q+1,c::r,h=>by simp only[bW];rw[eZ f g p q r (h.imp (fun h=>by omega) id)]
theorem bP {α:Type} (x:α):∀(p:Nat) (L:List α),L.set p x=bW (fun _=>x) p L
 |_,[]=>by simp[bW]
 |0,c::r=>by simp[bW]
 |p+1,c::r=>by simp[bW,bP x p r]
theorem W.put_comm (x y:W Pay) (L:List (Cel Pay)) (h:x.key.hits y.key=false):x.put (y.put L)=y.put (x.put L):=by
 cases x with
 |cel p c=>
  cases y with
  |cel q d=>simp only[W.key,Key.hits,beq_eq_false_iff_ne] at h;simp only[W.put,bP];exact eZ _ _ _ _ _ (.inl h)|fld q off x=>simp only[W.key,Key.hits,beq_eq_false_iff_ne] at h;simp only[W.put,bP];exact eZ _ _ _ _ _ (.inl h)
 |fld p off x=>
  cases y with
  |cel q d=>simp only[W.key,Key.hits,beq_eq_false_iff_ne] at h;simp only[W.put,bP];exact eZ _ _ _ _ _ (.inl h)|fld q off' x'=>
   simp only[W.key,Key.hits,Bool.and_eq_false_iff,beq_eq_false_iff_ne] at h;simp only[W.put];refine eZ _ _ _ _ _ (h.imp id fun h c=>?_);cases c with
   |raw own b T cs=>simp only[Cel.setF];rw[List.set_comm _ _ h]|nil=>rfl|free=>rfl|prd p=>rfl
theorem CR (x:W Pay) (L:List (Cel Pay)) (p off:Nat) (h:x.key.hits (.F p off)=false):iY (x.put L) p off=iY L p off:=by
 cases x with
 |cel q d=>simp only[W.key,Key.hits,beq_eq_false_iff_ne] at h;simp only[iY,W.put,bP,dB _ _ _ _ _ h]|fld q off' x=>
  simp only[W.key,Key.hits,Bool.and_eq_false_iff,beq_eq_false_iff_ne] at h
  by_cases hq:q=p
  ·subst hq;have ho:off'≠off:=h.resolve_left (fun h=>h rfl);simp only[iY,W.put]
   by_cases hl:q<L.length
   ·rw[cM _ _ _ _ hl];generalize L.getD q .nil=c;cases c with
    |raw own b T cs=>simp only[Cel.setF,List.getElem?_set_ne ho]|nil=>rfl|free=>rfl|prd p=>rfl
   ·have h1:(bW (Cel.setF off' x) q L).length=L.length:=eJ ..;have e1:(bW (Cel.setF off' x) q L).getD q .nil=.nil:=by
     rw[List.getD_eq_getElem?_getD,List.getElem?_eq_none (by omega)];rfl
    have e2:L.getD q .nil=.nil:=by rw[List.getD_eq_getElem?_getD,List.getElem?_eq_none (by omega)];rfl
    simp only[e1,e2]
  ·simp only[iY,W.put,dB _ _ _ _ _ hq]
theorem EK (x:W Pay) (L:List (Cel Pay)) (p:Nat) (h:x.key.hits (.C p)=false):(x.put L).getD p .nil=L.getD p .nil:=by
 cases x with
 |cel q d=>simp only[W.key,Key.hits,beq_eq_false_iff_ne] at h;simp only[W.put,bP,dB _ _ _ _ _ h]|fld q off' x=>simp only[W.key,Key.hits,beq_eq_false_iff_ne] at h;simp only[W.put,dB _ _ _ _ _ h]
theorem zP (x:W Pay) (L:List (Cel Pay)) (p:Nat) (h:x.key.hits (.S p)=false):((x.put L).getD p .nil).isRaw=(L.getD p .nil).isRaw:=by
 cases x with
 |cel q d=>simp only[W.key,Key.hits,beq_eq_false_iff_ne] at h;simp only[W.put,bP,dB _ _ _ _ _ h]|fld q off x=>
  by_cases hq:q=p
  ·subst hq;simp only[W.put]
   by_cases hl:q<L.length
   ·rw[cM _ _ _ _ hl];cases L.getD q .nil<;>rfl
   ·have h1:(bW (Cel.setF off x) q L).length=L.length:=eJ ..;have e1:(bW (Cel.setF off x) q L).getD q .nil=.nil:=by
     rw[List.getD_eq_getElem?_getD,List.getElem?_eq_none (by omega)];rfl
    have e2:L.getD q .nil=.nil:=by rw[List.getD_eq_getElem?_getD,List.getElem?_eq_none (by omega)];rfl
    rw[e1,e2]
  ·simp only[W.put,dB _ _ _ _ _ hq]
theorem zS (xs ys:List (W Pay)) (h:∀x∈xs,∀y∈ys,x.key.hits y.key=false):∀L:List (Cel Pay),puts xs (puts ys L)=puts ys (puts xs L):=by
 have one:∀(x:W Pay) (ys:List (W Pay)) (_:∀y∈ys,x.key.hits y.key=false) (L:List (Cel Pay)),x.put (puts ys L)=puts ys (x.put L):=by
  intro x ys;induction ys with
  |nil=>intro _ L;rfl|cons y r ih=>intro h L;simp only[puts];rw[ih (fun z hz=>h z (List.mem_cons_of_mem _ hz)),W.put_comm x y L (h y (List.mem_cons_self ..))]
 induction xs with
 |nil=>intro L;rfl|cons x r ih=>intro L;simp only[puts];rw[one x ys (fun y hy=>h x (List.mem_cons_self ..) y hy),ih (fun z hz y hy=>h z (List.mem_cons_of_mem _ hz) y hy)]
theorem lG (ws:List (W Pay)) (κ:Key) (h:∀x∈ws,x.key.hits κ=false):∀(L:List (Cel Pay)) (t:List SV),fF ⟨t,puts ws L⟩ ⟨t,L⟩ κ:=by
 induction ws with
 |nil=>intro L t;cases κ<;>simp[fF,puts]|cons x r ih=>
  intro L t;have h1:=ih (fun z hz=>h z (List.mem_cons_of_mem _ hz)) (x.put L) t;have h2:=h x (List.mem_cons_self ..);cases κ with
  |T u=>rfl|C p=>simp only[fF,puts] at h1⊢;rw[h1,EK x L p h2]|F p off=>simp only[fF,puts] at h1⊢;rw[h1,CR x L p off h2]|S p=>simp only[fF,puts] at h1⊢;rw[h1,zP x L p h2]
end
structure xC (Pay:Type) where
 dst:Option Tmp
 m:(Nat→Nat)→SM Pay (Delta Pay)
structure mV (Pay:Type) where
 i:Nat
 reads:List Key
 dst:Option Tmp
 d:Delta Pay
section
variable {Pay:Type}
def wk (dst:Option Tmp) (ws:List (W Pay)):List Key:=(match dst with|some t=>[Key.T t]|none=>[])++ws.map W.key
def mV.writes (r:mV Pay):List Key:=wk r.dst r.d.ws
def gN (xs ys:List Key):Bool:=xs.any fun x=>ys.any fun y=>x.hits y
def GD (r s:mV Pay):Bool:=!gN r.writes s.reads&& !gN r.writes s.writes&& !gN s.writes r.reads
def St.put (σ:St Pay) (dst:Option Tmp) (d:Delta Pay):St Pay:=
 {tmps:=match dst with|some t=>σ.tmps.set t d.res|none=>σ.tmps,heap:=puts d.ws σ.heap}
variable (items:Nat→xC Pay)
def eQ (β:Nat→Nat→Nat) (i:Nat) (σ:St Pay):Option (St Pay×mV Pay):=
 match ((items i).m (β i)).go σ [] with
 |some (d,l)=>some (σ.put (items i).dst d,⟨i,l,(items i).dst,d⟩)|none=>none
def fA (β:Nat→Nat→Nat):List Nat→St Pay→Option (St Pay×List (mV Pay))
 |[],σ=>some (σ,[])|i::r,σ=>match eQ items β i σ with
  |none=>none|some (σ₁,x)=>match fA β r σ₁ with
   |none=>none|some (σ₂,xs)=>some (σ₂,x::xs)
theorem gU {xs ys:List Key} (h:gN xs ys=false):∀x∈xs,∀y∈ys,x.hits y=false:=by intro x hx y hy;simp only[gN,List.any_eq_false] at h;have:=h x hx;simp only[Bool.not_eq_true,List.any_eq_false] at this;simpa using this y hy
theorem Key.hits_symm (x y:Key):x.hits y=y.hits x:=by cases x<;>cases y<;>simp[Key.hits,Bool.beq_comm]<;>(rw[Bool.eq_iff_iff];simp[eq_comm])
theorem St.put_agree (σ:St Pay) (dst:Option Tmp) (d:Delta Pay) (κ:Key)
  (h:∀x∈(match dst with|some t=>[Key.T t]|none=>[])++d.ws.map W.key,x.hits κ=false):fF (σ.put dst d) σ κ:=by
 have hw:∀x∈d.ws,x.key.hits κ=false:=fun x hx=>h _ (List.mem_append_right _ (List.mem_map.2 ⟨x,hx,rfl⟩));cases κ with
 |T u=>
  cases dst with
  |none=>rfl|some t=>have:=h (.T t) (by simp);simp only[Key.hits,beq_eq_false_iff_ne] at this;simp only[fF,St.put,List.getD_eq_getElem?_getD,List.getElem?_set_ne this]
 |C p=>have:=lG d.ws (.C p) hw σ.heap σ.tmps;simpa [fF,St.put] using this|F p off=>have:=lG d.ws (.F p off) hw σ.heap σ.tmps;simpa [fF,St.put] using this|S p=>have:=lG d.ws (.S p) hw σ.heap σ.tmps;simpa [fF,St.put] using this
theorem wX {σ σ':St Pay} {κ:Key} (h:fF σ σ' κ):fF σ' σ κ:=by cases κ<;>exact Eq.symm h
theorem St.put_comm (σ:St Pay) (s t:Option Tmp) (d e:Delta Pay)
  (ht:∀x,s=some x→t≠some x) (h:∀x∈d.ws,∀y∈e.ws,x.key.hits y.key=false):(σ.put s d).put t e=(σ.put t e).put s d:=by
 simp only[St.put];congr 1
 ·cases s with
  |none=>rfl|some x=>
   cases t with
   |none=>rfl|some y=>exact List.set_comm _ _ (fun e=>ht x rfl (by rw[e]))
 ·exact(zS d.ws e.ws h σ.heap).symm
theorem swap {β:Nat→Nat→Nat} {i j:Nat} {σ σ₁ σ₂:St Pay} {r s:mV Pay} (h1:eQ items β i σ=some (σ₁,r)) (h2:eQ items β j σ₁=some (σ₂,s)) (hn:GD r s=true):
  ∃σ₃,eQ items β j σ=some (σ₃,s)∧eQ items β i σ₃=some (σ₂,r):=by
 simp only[GD,Bool.and_eq_true,Bool.not_eq_true'] at hn;obtain⟨⟨n1,n2⟩,n3⟩:=hn;simp only[eQ] at h1 h2;cases e1:((items i).m (β i)).go σ [] with
 |none=>rw[e1] at h1;cases h1|some x=>
  obtain⟨d,l⟩:=x;rw[e1] at h1;simp only[Option.some.injEq,Prod.mk.injEq] at h1;obtain⟨rfl,rfl⟩:=h1;cases e2:((items j).m (β j)).go (σ.put (items i).dst d) [] with
  |none=>rw[e2] at h2;cases h2|some y=>
   obtain⟨e,l'⟩:=y;rw[e2] at h2;simp only[Option.some.injEq,Prod.mk.injEq] at h2;obtain⟨rfl,rfl⟩:=h2;have f1:=gU n1;have f2:=gU n2;have f3:=gU n3;have g2:((items j).m (β j)).go σ []=some (e,l'):=uF e2 fun κ hκ=>St.put_agree σ _ d κ fun x hx=>f1 x hx κ hκ;refine⟨σ.put (items j).dst e,by simp only[eQ,g2],?_⟩;have g1:((items i).m (β i)).go (σ.put (items j).dst e) []=some (d,l):=
    uF e1 fun κ hκ=>wX (St.put_agree σ _ e κ fun x hx=>f3 x hx κ hκ)
   simp only[eQ,g1];rw[St.put_comm]
   ·intro x hx hy;have:=f2 (.T x) (by simp only[mV.writes,wk,hy];simp) (.T x) (by simp only[mV.writes,wk,hx];simp);simp[Key.hits] at this
   ·intro x hx y hy;have:=f2 y.key (by simp only[mV.writes,wk];exact List.mem_append_right _ (List.mem_map.2 ⟨y,hy,rfl⟩)) x.key (by simp only[mV.writes,wk];exact List.mem_append_right _ (List.mem_map.2 ⟨x,hx,rfl⟩));rw[Key.hits_symm];exact this
theorem LK {β:Nat→Nat→Nat} {j:Nat} {B:List Nat}:∀(A:List Nat) {σ σ':St Pay} {R:List (mV Pay)},fA items β (A++j::B) σ=some (σ',R)→
  (∀r s,r∈R→s∈R→r.i∈A→s.i=j→GD r s=true)→
  ∃s RA RB,R=RA++s::RB∧s.i=j∧RA.map mV.i=A∧fA items β (j::(A++B)) σ=some (σ',s::(RA++RB))
 |[],σ,σ',R,h,_=>by
  simp only[List.nil_append,fA] at h⊢;cases e:eQ items β j σ with
  |none=>rw[e] at h;cases h|some x=>
   obtain⟨σ₁,x⟩:=x;rw[e] at h;simp only at h⊢;cases e2:fA items β B σ₁ with
   |none=>rw[e2] at h;cases h|some y=>obtain⟨σ₂,xs⟩:=y;rw[e2] at h;simp only[Option.some.injEq,Prod.mk.injEq] at h⊢;obtain⟨rfl,rfl⟩:=h;refine⟨x,[],xs,rfl,?_,rfl,rfl,rfl⟩;simp only[eQ] at e;split at e<;>simp at e;rw[←e.2]
 |a::A,σ,σ',R,h,hn=>by
  simp only[List.cons_append,fA] at h;cases e:eQ items β a σ with
  |none=>rw[e] at h;cases h|some x=>
   obtain⟨σ₁,x⟩:=x;rw[e] at h;simp only at h;cases e2:fA items β (A++j::B) σ₁ with
   |none=>rw[e2] at h;cases h|some y=>
    obtain⟨σ₂,xs⟩:=y;rw[e2] at h;simp only[Option.some.injEq,Prod.mk.injEq] at h;obtain⟨rfl,rfl⟩:=h;have hx:x.i=a:=by simp only[eQ] at e;split at e<;>simp at e;rw[←e.2]
    obtain⟨s,RA,RB,rfl,hs,hA,h2⟩:=LK A e2 fun r s hr hs' ha hj=>hn r s (List.mem_cons_of_mem _ hr) (List.mem_cons_of_mem _ hs') (List.mem_cons_of_mem _ ha) hj;refine⟨s,x::RA,RB,rfl,hs,by simp[hx,hA],?_⟩;simp only[fA] at h2;cases e3:eQ items β j σ₁ with
    |none=>rw[e3] at h2;cases h2|some z=>
     obtain⟨σ₃,z⟩:=z;rw[e3] at h2;simp only at h2;cases e4:fA items β (A++B) σ₃ with
     |none=>rw[e4] at h2;cases h2|some u=>obtain⟨σ₄,u⟩:=u;rw[e4] at h2;simp only[Option.some.injEq,Prod.mk.injEq,List.cons.injEq] at h2;obtain⟨rfl,rfl,rfl⟩:=h2;obtain⟨σ₅,g1,g2⟩:=swap items e e3 (hn x z (List.mem_cons_self ..) (by simp) (by simp[hx]) hs);simp only[fA,List.cons_append,g1,g2,e4]
end
section
variable {Pay:Type} [PayDen Pay] {P:Program}
theorem F6 {α:Type} (σ:St Pay) (m:SM Pay α):∀l,m.go σ l=(m.go σ []).map fun x=>(x.1,x.2++l):=by
 induction m with
 |ret a=>intro l;simp[SM.go]|fail=>intro l;simp[SM.go]|rdT t k ih=>intro l;simp only[SM.go];rw[ih _ (.T t::l),ih _ [.T t]];simp[Function.comp_def]|rdC p k ih=>intro l;simp only[SM.go];rw[ih _ (.C p::l),ih _ [.C p]];simp[Function.comp_def]|rdF p off k ih=>
  intro l;simp only[SM.go];cases iY σ.heap p off with
  |none=>rfl|some x=>obtain⟨own,b,T,x⟩:=x;simp only;rw[ih _ _ _ _ (.F p off::l),ih _ _ _ _ [.F p off]];simp[Function.comp_def]
 |rdS p k ih=>intro l;simp only[SM.go];rw[ih _ (.S p::l),ih _ [.S p]];simp[Function.comp_def]
theorem pF {α γ:Type} (σ:St Pay) (m:SM Pay α) (f:α→SM Pay γ):∀l,(m.bind f).go σ l=(m.go σ l).bind fun x=>(f x.1).go σ x.2:=by
 induction m with
 |ret a=>intro l;simp[SM.go,SM.bind]|fail=>intro l;simp[SM.go,SM.bind]|rdT t k ih=>intro l;simp only[SM.go,SM.bind];rw[ih]|rdC p k ih=>intro l;simp only[SM.go,SM.bind];rw[ih]|rdF p off k ih=>
  intro l;simp only[SM.go,SM.bind];cases iY σ.heap p off with
  |none=>rfl|some x=>obtain⟨own,b,T,x⟩:=x;simp only;rw[ih]
 |rdS p k ih=>intro l;simp only[SM.go,SM.bind];rw[ih]
def eG (P:Program) (o:Oper) (f:(Nat→Nat)→SM Pay (Delta Pay)):Prop:=
 ∀(σ:St Pay) (F:HProp) (a:Act) (w:World) (next:Act→World→Prop) (Q:Exit→Act→World→Prop),
  cD σ F a w→(∀β,∃d l,(f β).go σ []=some (d,l)∧d.obl)→(True)→
  (∀β d l w',(f β).go σ []=some (d,l)→d.factP→sat w' (star (big (puts d.ws σ.heap)) F)→next (a.put o.dst d.res.den) w')→
  o.wp P a w next Q∨(o.asks P a w∧LetsOut Q)
def nL (want:Bool):SV→SM Pay Bool
 |.bl b=>.ret (match want with|true=>b|false=>!b)|.v x=>match x with
  |.bool b=>.ret (match want with|true=>b|false=>!b)|_=>.ret false
 |.hv _ _=>.fail|_=>.ret false
def dX (l:List Oper) (o:Oper):SM Pay Bool:=
 match o.guard with
 |none=>.ret true|some (j,want)=>match l[j]? with
  |some p=>match p.dst with
   |some t=>.rdT t (nL want)|none=>.ret false
  |none=>.ret false
theorem uM (b want:Bool):(some b==some want)=(match want with|true=>b|false=>!b):=by
 cases b<;>cases want<;>rfl
theorem vQ {want:Bool} {x:SV} {σ:St Pay} {b:Bool} {l l':List Key} (h:(nL want x:SM Pay Bool).go σ l=some (b,l')):
  ((match x.den with|.bool b=>some b|_=>none)==some want)=b:=by
 cases x with
 |bl c=>simp only[nL,SM.go,Option.some.injEq,Prod.mk.injEq] at h;rw[←h.1];exact uM c want|v x=>cases x<;>simp only[nL,SM.go,Option.some.injEq,Prod.mk.injEq] at h<;>rw[←h.1]<;>first|exact uM _ want|rfl
 |hv _ _=>simp[nL,SM.go] at h|_=>simp only[nL,SM.go,Option.some.injEq,Prod.mk.injEq] at h;rw[←h.1];rfl
theorem kQ (l:List SV) (t:Nat):(l.getD t (.v undef)).den=(SV.dens l).toArray.getD t undef:=by rw[cH];simp only[List.getD_eq_getElem?_getD,List.getElem?_map,Array.getD_eq_getD_getElem?,List.getElem?_toArray];cases l[t]?<;>rfl
theorem lK {ops:Array Oper} {o:Oper} {σ:St Pay} {a:Act} {b:Bool} {l:List Key} (ha:a.tmps=(SV.dens σ.tmps).toArray)
  (h:(dX ops.toList o:SM Pay Bool).go σ []=some (b,l)):Region.wanted o (yielded ops a.tmps)=b:=by
 unfold dX at h;unfold Region.wanted;cases hg:o.guard with
 |none=>rw[hg] at h;simp only[SM.go,Option.some.injEq,Prod.mk.injEq] at h;exact h.1|some x=>
  obtain⟨j,want⟩:=x;rw[hg] at h;simp only at h⊢;unfold yielded;rw[←Array.getElem?_toList];cases hj:ops.toList[j]? with
  |none=>rw[hj] at h;simp only[SM.go,Option.some.injEq,Prod.mk.injEq] at h;rw[←h.1];rfl|some p=>
   rw[hj] at h;simp only at h;cases hp:p.dst with
   |none=>rw[hp] at h;simp only[SM.go,Option.some.injEq,Prod.mk.injEq] at h;rw[←h.1];simp[hp]|some t=>
    rw[hp] at h;simp only[SM.go] at h;have:=vQ h;rw[kQ,←ha] at this;rw[←this];simp only[Option.bind_some,hp]
    by_cases ht:t<a.tmps.size
    ·simp only[Array.getD_eq_getD_getElem?,ht,Array.getElem?_eq_getElem,Option.getD_some];cases a.tmps[t]<;>rfl
    ·simp[Array.getD_eq_getD_getElem?,ht,undef]
def tS (l:List Oper) (o:Oper) (f:(Nat→Nat)→SM Pay (Delta Pay)):xC Pay where
 dst:=o.dst
 m:=fun β=>(dX l o).bind fun b=>match b with
  |true=>f β|false=>.ret {res:=.v undef}
def d9 (o:Oper):List Nat:=o.after.toList.filterMap fun e=>match e.ground with
 |.textOnly _=>none|.gcOnly _=>none|_=>some e.on
theorem oK {o:Oper} {e:Edge} (he:e∈o.after) (hb:Region.binds .any e=true):e.on∈d9 o:=by unfold d9;rw[List.mem_filterMap];refine⟨e,by simpa using he,?_⟩;unfold Region.binds at hb;split at hb<;>simp_all
theorem oF {o:Oper} {i:Nat} (h:i∈d9 o):∃e∈o.after,Region.binds .any e=true∧e.on=i:=by
 unfold d9 at h;rw[List.mem_filterMap] at h;obtain⟨e,he,hi⟩:=h;refine⟨e,by simpa using he,?_,?_⟩
 ·unfold Region.binds;split at hi<;>simp_all
 ·split at hi<;>simp_all
def xK (mk:Nat→Nat):List (mV Pay)→Bool
 |[]=>true|r::rs=>(rs.all fun s=>(mk s.i).testBit r.i||GD r s)&&xK mk rs
theorem rQ {mk:Nat→Nat} {A B:List (mV Pay)} {s:mV Pay} (h:xK mk (A++s::B)=true):
  (∀r∈A,(mk s.i).testBit r.i=true∨GD r s=true)∧xK mk (A++B)=true:=by
 induction A with
 |nil=>simp only[List.nil_append,xK,Bool.and_eq_true] at h;exact⟨fun r hr=>by simp at hr,h.2⟩|cons x A ih=>
  simp only[List.cons_append,xK,Bool.and_eq_true,List.all_eq_true,List.mem_append,List.mem_cons,Bool.or_eq_true] at h;obtain⟨h1,h2⟩:=h;obtain⟨h3,h4⟩:=ih h2;refine⟨fun r hr=>?_,?_⟩
  ·rcases List.mem_cons.1 hr with rfl|hr
   ·exact h1 s (.inr (.inl rfl))
   ·exact h3 r hr
  ·simp only[List.cons_append,xK,Bool.and_eq_true,List.all_eq_true,List.mem_append,Bool.or_eq_true];exact⟨fun y hy=>h1 y (hy.imp id .inr),h4⟩
theorem uY {items:Nat→xC Pay} {β:Nat→Nat→Nat}:∀(T:List Nat) {σ σ':St Pay} {R:List (mV Pay)},fA items β T σ=some (σ',R)→R.map mV.i=T
 |[],σ,σ',R,h=>by simp only[fA,Option.some.injEq,Prod.mk.injEq] at h;rw[←h.2];rfl
 |i::T,σ,σ',R,h=>by
  simp only[fA] at h;cases e:eQ items β i σ with
  |none=>rw[e] at h;cases h|some x=>
   obtain⟨σ₁,x⟩:=x;rw[e] at h;simp only at h;cases e2:fA items β T σ₁ with
   |none=>rw[e2] at h;cases h|some y=>
    obtain⟨σ₂,xs⟩:=y;rw[e2] at h;simp only[Option.some.injEq,Prod.mk.injEq] at h;obtain⟨rfl,rfl⟩:=h;have hx:x.i=i:=by simp only[eQ] at e;split at e<;>simp at e;rw[←e.2]
    simp[hx,uY T e2]
theorem pU {items:Nat→xC Pay} {β γ:Nat→Nat→Nat}:∀(T:List Nat) (σ:St Pay),(∀i∈T,β i=γ i)→fA items β T σ=fA items γ T σ
 |[],σ,_=>rfl|i::T,σ,h=>by
  simp only[fA,eQ,h i (List.mem_cons_self ..)];split
  ·rfl
  ·rename_i σ₁ x _;rw[pU T σ₁ fun j hj=>h j (List.mem_cons_of_mem _ hj)]
def Inv (items:Nat→xC Pay) (mk:Nat→Nat) (K:St Pay→Prop) (T:List Nat) (σ:St Pay):Prop:=
 ∀β,∃σ' R,fA items β T σ=some (σ',R)∧xK mk R=true∧(∀r∈R,r.d.obl)∧((∀r∈R,r.d.factP)→K σ')
end
section
variable {Pay:Type} [PayDen Pay] {P:Program}
def SM.val {α:Type} (σ:St Pay):SM Pay α→Option α
 |.ret a=>some a|.fail=>none|.rdT t k=>(k (σ.tmps.getD t (.v undef))).val σ|.rdC p k=>(k (σ.heap.getD p .nil)).val σ|.rdF p off k=>match iY σ.heap p off with
  |some (own,b,T,x)=>(k own b T x).val σ|none=>none
 |.rdS p k=>(k (σ.heap.getD p .nil).isRaw).val σ
theorem D5 {α:Type} (σ:St Pay) (m:SM Pay α):∀l,(m.go σ l).map Prod.fst=m.val σ:=by
 induction m with
 |ret a=>intro l;rfl|fail=>intro l;rfl|rdT t k ih=>intro l;exact ih _ _|rdC p k ih=>intro l;exact ih _ _|rdF p off k ih=>
  intro l;simp only[SM.go,SM.val];cases iY σ.heap p off with
  |none=>rfl|some x=>obtain⟨own,b,T,x⟩:=x;exact ih _ _ _ _ _
 |rdS p k ih=>intro l;exact ih _ _
theorem aR {α:Type} {σ:St Pay} {m:SM Pay α} {l:List Key} {a:α} {l':List Key} (h:m.go σ l=some (a,l')):m.val σ=some a:=by rw[←D5 σ m l,h];rfl
theorem AT {α:Type} {σ:St Pay} {m:SM Pay α} {a:α} (h:m.val σ=some a):∃l',m.go σ []=some (a,l'):=by
 rw[←D5 σ m []] at h;cases e:m.go σ [] with
 |none=>rw[e] at h;cases h|some x=>rw[e] at h;simp at h;exact⟨x.2,by rw[←h]⟩
@[simp] theorem aC {α:Type} (σ:St Pay) (a:α):(SM.ret a:SM Pay α).val σ=some a:=rfl
@[simp] theorem val_fail {α:Type} (σ:St Pay):(SM.fail:SM Pay α).val σ=none:=rfl
@[simp] theorem tH {α:Type} (σ:St Pay) (t:Nat) (k:SV→SM Pay α):(SM.rdT t k).val σ=(k (σ.tmps.getD t (.v undef))).val σ:=rfl
@[simp] theorem aQ {α:Type} (σ:St Pay) (p:Nat) (k:Cel Pay→SM Pay α):(SM.rdC p k).val σ=(k (σ.heap.getD p .nil)).val σ:=rfl
theorem oZ {α:Type} (σ:St Pay) (p off:Nat) (k:Bool→Nat→TypeId→SV→SM Pay α):(SM.rdF p off k).val σ=
  match iY σ.heap p off with|some (own,b,T,x)=>(k own b T x).val σ|none=>none:=by
 simp only[SM.val]
@[simp] theorem tE {α:Type} (σ:St Pay) (p:Nat) (k:Bool→SM Pay α):(SM.rdS p k).val σ=(k (σ.heap.getD p .nil).isRaw).val σ:=rfl
@[simp] theorem aE {α γ:Type} (σ:St Pay) (m:SM Pay α) (f:α→SM Pay γ):(m.bind f).val σ=(m.val σ).bind fun x=>(f x).val σ:=by
 induction m with
 |ret a=>rfl|fail=>rfl|rdT t k ih=>exact ih _|rdC p k ih=>exact ih _|rdF p off k ih=>
  simp only[SM.bind,oZ];cases iY σ.heap p off with
  |none=>rfl|some x=>obtain⟨own,b,T,x⟩:=x;exact ih _ _ _ _
 |rdS p k ih=>exact ih _
def bT (P:Program) (o:Oper) (f:(Nat→Nat)→SM Pay (Delta Pay)):Prop:=
 ∀(σ:St Pay) (F:HProp) (a:Act) (w:World) (next:Act→World→Prop) (Q:Exit→Act→World→Prop),
  cD σ F a w→(∀β,∃d,(f β).val σ=some d∧d.obl)→(True)→
  (∀β d w',(f β).val σ=some d→d.factP→sat w' (star (big (puts d.ws σ.heap)) F)→next (a.put o.dst d.res.den) w')→
  o.wp P a w next Q∨(o.asks P a w∧LetsOut Q)
theorem bT.sound {o:Oper} {f:(Nat→Nat)→SM Pay (Delta Pay)} (h:bT P o f):eG P o f:=by
 intro σ F a w next Q hm h1 h2 h3
 refine h σ F a w next Q hm (fun β=>?_) h2 (fun β d w' e hf hs=>?_)
 ·obtain⟨d,l,e,ho⟩:=h1 β;exact⟨d,aR e,ho⟩
 ·obtain⟨l,e'⟩:=AT e;exact h3 β d l w' e' hf hs
theorem bT.pure {o:Oper} {f:SM Pay (Delta Pay)}
  (h:∀(σ:St Pay) (F:HProp) (a:Act) (w:World) (d:Delta Pay),cD σ F a w→f.val σ=some d→d.obl→
   d.ws=[]∧d.fact=none∧(execOp a.eval o).run P w=.ok (.value d.res.den) w):bT P o fun _=>f:=by
 intro σ F a w next Q hm h1 _ h3
 obtain⟨d,e,ho⟩:=h1 (fun _=>0);obtain⟨hws,hfact,hrun⟩:=h σ F a w d hm e ho;left;unfold Oper.wp;rw[hrun];exact h3 (fun _=>0) d w e (by rw[Delta.factP,hfact];trivial) (by rw[hws];exact hm.2.2)
theorem jI {σ:List (Cel Pay)} {F:HProp} {w:World} {p:Nat} (h:sat w (star (big σ) F)):sat w (star ((σ.getD p .nil).den) (star (big (σ.set p .nil)) F)):=by rw[bV σ p,aA] at h;exact h
theorem aX {w:World} {own:Bool} {b:Nat}:∀(vs:List Value) (k:Nat) {A:HProp},sat w (star (aG own b k vs) A)→∀(j:Nat) (v:Value),vs[j]?=some v→has w (b,some (k+j)) (.val v)
 |[],_,_,_,j,v,e=>by simp at e
 |x::vs,k,A,h,j,v,e=>by
  simp only[aG,aA] at h;cases j with
  |zero=>
   simp at e;subst e;cases own
   ·exact D1 (by simpa using h)
   ·exact iD (by simpa using h)
  |succ j=>have:=aX vs (k+1) h.snd j v (by simpa using e);rw[show k+(j+1)=k+1+j by omega];exact this
theorem pE {σ:List (Cel Pay)} {F:HProp} {w:World} {p:Nat} {own:Bool} {b:Nat} {T:TypeId} {cs:List SV} (h:sat w (star (big σ) F))
  (e:σ.getD p .nil=.raw own b T cs) {j:Nat} {x:SV} (hx:cs[j]?=some x):has w (b,some j) (.val x.den):=by
 have h1:=jI (p:=p) h;rw[e] at h1;simp only[Cel.den,aA] at h1;have:=aX (SV.dens cs) 0 h1.snd j x.den (by rw[cH];simp[hx]);simpa using this
theorem mF {σ:List (Cel Pay)} {F:HProp} {w:World} {p:Nat} {own:Bool} {b:Nat} {T:TypeId} {cs:List SV} (h:sat w (star (big σ) F))
  (e:σ.getD p .nil=.raw own b T cs) {j:Nat} {x:SV} (hx:cs[j]?=some x):w.cell? ⟨b,j,none⟩=some x.den:=(pE h e hx).1
theorem mY {L:List (Cel Pay)} {p off:Nat} {own:Bool} {b:Nat} {T:TypeId} {x:SV} (h:iY L p off=some (own,b,T,x)):
  ∃cs,L.getD p .nil=.raw own b T cs∧cs[off]?=some x:=by
 unfold iY at h;split at h
 ·rename_i own' b' T' cs e;split at h
  ·rename_i x' e';simp only[Option.some.injEq,Prod.mk.injEq] at h;obtain⟨rfl,rfl,rfl,rfl⟩:=h;exact⟨cs,e,e'⟩
  ·cases h
 ·cases h
theorem nW {w:World} {b:Nat}:∀(vs:List Value) (k:Nat) {A:HProp},sat w (star (aG true b k vs) A)→∀(j:Nat) (v:Value),j<vs.length→
  sat (w.setCell ⟨b,k+j,none⟩ v) (star (aG true b k (vs.set j v)) A)
 |[],_,_,_,j,v,e=>by simp at e
 |x::vs,k,A,h,j,v,e=>by
  cases j with
  |zero=>simp only[List.set_cons_zero,aG,aA,if_true] at h⊢;exact nT h|succ j=>simp only[List.set_cons_succ,aG,aA] at h⊢;rw[aM] at h⊢;have:=nW vs (k+1) h j v (by simpa using e);rw[show k+(j+1)=k+1+j by omega];exact this
theorem A5 {σ:List (Cel Pay)} {F:HProp} {w:World} {p:Nat} {b:Nat} {T:TypeId} {cs:List SV} (h:sat w (star (big σ) F))
  (e:σ.getD p .nil=.raw true b T cs) {j:Nat} (hj:j<cs.length) (x:SV):
  sat (w.setCell ⟨b,j,none⟩ x.den) (star (big (bW (Cel.setF j x) p σ)) F):=by
 have hp:p<σ.length:=by
  rcases Nat.lt_or_ge p σ.length with h|h
  ·exact h
  ·rw[List.getD_eq_getElem?_getD,List.getElem?_eq_none h] at e;simp at e
 have h1:=jI (p:=p) h;rw[e] at h1;have hb:big (bW (Cel.setF j x) p σ)=star ((Cel.raw true b T (cs.set j x):Cel Pay).den) (big (σ.set p .nil)):=by
  rw[bV _ p,cM _ _ _ _ hp,e];congr 2;rw[bP,bP];clear h h1 e;induction σ generalizing p with
  |nil=>simp[bW]|cons c r ih=>
   cases p with
   |zero=>simp[bW]|succ p=>simp only[bW];rw[ih (by simpa using hp)]
 rw[hb];simp only[Cel.den,aA,List.length_set] at h1⊢;rw[aM] at h1⊢;have:=nW (SV.dens cs) 0 h1 j x.den (by rw[bD];exact hj);rw[cH] at this⊢;simp only[Nat.zero_add] at this;rw[List.map_set];simpa [cH] using this
end
inductive TK where
 |int (k:IntKind)|bool|str|ptr (e:TypeId)|slice (e:TypeId)|map (k e:TypeId)|struct (fs:List (Nat×Nat×Bool))|array (len:Nat) (e:TypeId)|iface|func|other
 deriving DecidableEq
structure TyI where
 n:Nat
 agg:Bool
 z:SV
 k:TK
def isAggB (P:Program) (t:TypeId):Bool:=match P.underlying t with
 |some (.struct _)=>true|some (.array _ _)=>true|_=>false
def kindOf (P:Program) (t:TypeId):TK:=match P.underlying t with
 |some (.int k)=>.int k|some .bool=>.bool|some .string=>.str|some (.pointer e)=>.ptr e|some (.slice e)=>.slice e|some (.map k e)=>.map k e|some (.struct fs)=>.struct (fs.toList.map fun f=>(f.offset,P.cellsOf f.type,isAggB P f.type))|some (.array n e)=>.array n e|some (.interface _)=>.iface|some (.func _ _ _)=>.func|_=>.other
structure TyOK (P:Program) (t:TypeId) (i:TyI):Prop where
 info:∃f,P.info? t=some f∧f.size=i.n∧f.zero=some i.z.den
 agg:isAggB P t=i.agg
 kind:kindOf P t=i.k
 some:(P.underlying t).isSome=true
theorem TyOK.cellsOf {P:Program} {t:TypeId} {i:TyI} (h:TyOK P t i):P.cellsOf t=i.n:=by obtain⟨f,e,h1,_⟩:=h.info;simp[Program.cellsOf,e,h1]
theorem TyOK.run_isAgg {P:Program} {t:TypeId} {i:TyI} (h:TyOK P t i) (w:World):(isAgg t).run P w=.ok i.agg w:=by
 have h1:=h.agg;have h2:=h.some;unfold isAgg underlying isAggB at*;cases e:P.underlying t with
 |none=>rw[e] at h2;cases h2|some d=>rw[e] at h1;cases d<;>simp_all
theorem TyOK.run_sizeOf {P:Program} {t:TypeId} {i:TyI} (h:TyOK P t i) (w:World):(sizeOf t).run P w=.ok i.n w:=by obtain⟨f,e,h1,_⟩:=h.info;simp[sizeOf,typeInfo,e,h1]
theorem TyOK.run_zero {P:Program} {t:TypeId} {i:TyI} (h:TyOK P t i) (w:World):(zeroValue t).run P w=.ok i.z.den w:=by obtain⟨f,e,_,h1⟩:=h.info;simp[zeroValue,typeInfo,e,h1]
inductive lT where
 |add|sub|mul|and|or|xor|andNot|shl|shr|quo|rem|conv|max|min
 deriving DecidableEq
inductive mU where
 |lt|le|eq|ne
 deriving DecidableEq
def arStd:lT→IntKind→Int→Int→Int
 |.add,k,x,y=>k.wrap (x+y)|.sub,k,x,y=>k.wrap (x-y)|.mul,k,x,y=>k.wrap (x*y)|.and,k,x,y=>k.wrap (BitVec.ofInt k.bits x&&&BitVec.ofInt k.bits y).toNat|.or,k,x,y=>k.wrap (BitVec.ofInt k.bits x|||BitVec.ofInt k.bits y).toNat|.xor,k,x,y=>k.wrap (BitVec.ofInt k.bits x^^^BitVec.ofInt k.bits y).toNat|.andNot,k,x,y=>k.wrap (BitVec.ofInt k.bits x&&& ~~~BitVec.ofInt k.bits y).toNat|.shl,k,x,y=>k.wrap (x*2^(min y.toNat k.bits))|.shr,k,x,y=>x.fdiv (2^(min y.toNat k.bits))|.quo,k,x,y=>k.wrap (x.tdiv y)|.rem,_,x,y=>x.tmod y|.conv,k,x,_=>k.wrap x|.max,_,x,y=>if y>x then y else x
 |.min,_,x,y=>if y<x then y else x
def cmStd:mU→Int→Int→Bool
 |.lt,x,y=>decide (x<y)|.le,x,y=>decide (x≤y)|.eq,x,y=>x==y|.ne,x,y=>x !=y
def yF:Value→SV
 |.int k n=>.lit k n|.bool b=>.bl b|v=>.v v
theorem oM (v:Value):(yF v).den=v:=by cases v<;>rfl
section
variable {Pay:Type}
def ev:Operand→SM Pay SV
 |.tmp t=>.rdT t .ret|.const v=>.ret (yF v)|.global g=>.ret (.v (.pointer (some ⟨g,0,none⟩)))|.func f=>.ret (.fn (.func f) [] [])
theorem aK [PayDen Pay] {x:Operand} {σ:St Pay} {F:HProp} {a:Act} {w:World} {sv:SV} (hm:cD σ F a w) (h:(ev x:SM Pay SV).val σ=some sv):a.eval x=sv.den:=by
 cases x with
 |tmp t=>simp only[ev,tH,aC,Option.some.injEq] at h;subst h;rw[kQ,←hm.1];rfl|const v=>simp only[ev,aC,Option.some.injEq] at h;subst h;exact(oM v).symm|global g=>simp only[ev,aC,Option.some.injEq] at h;subst h;rfl|func f=>simp only[ev,aC,Option.some.injEq] at h;subst h;rfl
def E1:List Operand→SM Pay (List SV)
 |[]=>.ret []|x::r=>(ev x).bind fun v=>(E1 r).bind fun vs=>.ret (v::vs)
theorem gH [PayDen Pay] {σ:St Pay} {F:HProp} {a:Act} {w:World} (hm:cD σ F a w):∀{xs:List Operand} {vs:List SV},(E1 xs:SM Pay (List SV)).val σ=some vs→xs.map a.eval=SV.dens vs
 |[],vs,h=>by simp only[E1,aC,Option.some.injEq] at h;subst h;rfl
 |x::xs,vs,h=>by simp only[E1,aE,Option.bind_eq_some_iff] at h;obtain⟨v,h1,us,h2,h3⟩:=h;simp only[aC,Option.some.injEq] at h3;subst h3;simp only[List.map_cons,SV.dens,aK hm h1,gH hm h2]
def bG:SV→Option (Bool×IntKind×Int)
 |.lit k n=>some (true,k,n)|.i k n=>some (false,k,n)|_=>none
theorem d8 {x:SV} {r:Bool×IntKind×Int} (h:bG x=some r):x.den=.int r.2.1 r.2.2:=by cases x<;>simp[bG] at h<;>subst h<;>rfl
variable (TT:TypeId→Option TyI) (AR:lT→IntKind→Int→Int→Int) (CM:mU→Int→Int→Bool) (SE:ByteArray→ByteArray→Bool)
def xO (l:Bool) (op:lT) (k:IntKind) (a b:Int):SV:=
 match l with
 |true=>.lit k (arStd op k a b)|false=>.i k (AR op k a b)
def OI (l:Bool) (op:mU) (a b:Int):SV:=
 match l with
 |true=>.bl (cmStd op a b)|false=>.bl (CM op a b)
def xR (l:Bool) (op:BinOp) (k:IntKind) (a b:Int):Option (SV×Prop):=
 match op with
 |.add=>some (xO AR l .add k a b,True)|.sub=>some (xO AR l .sub k a b,True)|.mul=>some (xO AR l .mul k a b,True)|.quo=>some (xO AR l .quo k a b,b≠0)|.rem=>some (xO AR l .rem k a b,b≠0)|.and=>some (xO AR l .and k a b,True)|.or=>some (xO AR l .or k a b,True)|.xor=>some (xO AR l .xor k a b,True)|.andNot=>some (xO AR l .andNot k a b,True)|.eql=>some (OI CM l .eq a b,True)|.neq=>some (OI CM l .ne a b,True)|.lss=>some (OI CM l .lt a b,True)|.leq=>some (OI CM l .le a b,True)|.gtr=>some (OI CM l .lt b a,True)|.geq=>some (OI CM l .le b a,True)|_=>none
theorem sW (hA:AR=arStd) (l:Bool) (op:lT) (k:IntKind) (a b:Int):(xO AR l op k a b).den=.int k (arStd op k a b):=by subst hA;cases l<;>rfl
theorem GH (hC:CM=cmStd) (l:Bool) (op:mU) (a b:Int):(OI CM l op a b).den=.bool (cmStd op a b):=by subst hC;cases l<;>rfl
theorem xL {P:Program} (hA:AR=arStd) (hC:CM=cmStd) {l:Bool} {op:BinOp} {k:IntKind} {a b:Int} {r:SV×Prop} (h:xR AR CM l op k a b=some r) (ho:r.2) (t:TypeId) (w:World):
  (binOp op t (.int k a) (.int k b)).run P w=.ok r.1.den w:=by
 cases op<;>simp only[xR,Option.some.injEq,reduceCtorEq] at h<;>subst h<;>simp only[sW AR hA,GH CM hC]<;>
  simp_all[binOp,Op.intArith,Op.intDiv,Op.intBits,Op.intCmp,arStd,cmStd,ge_iff_le,gt_iff_lt]
def pG:SV→Option Bool
 |.v x=>match x with
  |.pointer none=>some true|.pointer (some _)=>some false|.slice none _ _=>some true|.slice (some _) _ _=>some false|.map none=>some true|.map (some _)=>some false|.nilIface=>some true|.iface _ _=>some false|.nilFunc=>some true|.func _ _ _=>some false|_=>none
 |.hv _ x=>match x with
  |.pointer none=>some true|.pointer (some _)=>some false|.slice none _ _=>some true|.slice (some _) _ _=>some false|.map none=>some true|.map (some _)=>some false|.nilIface=>some true|.iface _ _=>some false|.nilFunc=>some true|.func _ _ _=>some false|_=>none
 |.ptr _ _ _=>some false|.sl _ nn _ _ _ _=>match nn with
  |0=>some true|_+1=>some false
 |.el _ _ _ _=>some false|.ifc _ _=>some false|.fn _ _ _=>some false|_=>none
def oI (x:Value):Option Bool:=match x with
  |.pointer none=>some true|.pointer (some _)=>some false|.slice none _ _=>some true|.slice (some _) _ _=>some false|.map none=>some true|.map (some _)=>some false|.nilIface=>some true|.iface _ _=>some false|.nilFunc=>some true|.func _ _ _=>some false|_=>none
theorem uJ {x:SV} {b:Bool} (h:pG x=some b):oI x.den=some b:=by
 cases x with
 |sl h' nn b' off n cap=>cases nn<;>simp only[pG] at h<;>exact h|_=>simp only[pG,reduceCtorEq] at h<;>exact h
def eY:TK→Value→Bool
 |.ptr _,.pointer none=>true|.slice _,.slice none 0 0=>true|.map _ _,.map none=>true|.iface,.nilIface=>true|.func,.nilFunc=>true|_,_=>false
def fits:TK→SV→Bool
 |.ptr _,.ptr _ _ _=>true|.ptr _,.el _ _ _ _=>true|.slice _,.sl _ _ _ _ _ _=>true|.iface,.ifc _ _=>true|.func,.fn _ _ _=>true|k,.v x=>match k,x with
  |.ptr _,.pointer _=>true|.slice _,.slice _ _ _=>true|.map _ _,.map _=>true|.iface,.nilIface=>true|.iface,.iface _ _=>true|.func,.nilFunc=>true|.func,.func _ _ _=>true|_,_=>false
 |k,.hv _ x=>match k,x with
  |.ptr _,.pointer _=>true|.slice _,.slice _ _ _=>true|.map _ _,.map _=>true|.iface,.nilIface=>true|.iface,.iface _ _=>true|.func,.nilFunc=>true|.func,.func _ _ _=>true|_,_=>false
 |_,_=>false
theorem MC {k:TK} {x:SV} (h:fits k x=true):fits k (.v x.den)=true:=by
 cases x with
 |ptr a b c=>cases k<;>simp_all[fits,SV.den]|ifc a b=>cases k<;>simp_all[fits,SV.den]|sl a b c d e f=>cases k<;>simp_all[fits,SV.den]|el a b c d=>cases k<;>simp_all[fits,SV.den]|fn a b c=>cases k<;>simp_all[fits,SV.den]|v x=>exact h|hv i x=>cases k<;>simp only[fits,SV.den] at h⊢<;>first|exact h|(simp at h)
 |_=>cases k<;>simp_all[fits]
theorem aS {P:Program} {t:TypeId} {k:TK} (h:kindOf P t=k):
  (∀e,k=.ptr e→P.underlying t=some (.pointer e))∧(∀e,k=.slice e→P.underlying t=some (.slice e))∧
  (∀a e,k=.map a e→P.underlying t=some (.map a e))∧(k=.iface→∃ms,P.underlying t=some (.interface ms))∧
  (k=.func→∃a b c,P.underlying t=some (.func a b c))∧(k=.bool→P.underlying t=some .bool)∧(k=.str→P.underlying t=some .string)∧
  (∀i,k=.int i→P.underlying t=some (.int i))∧(∀n e,k=.array n e→P.underlying t=some (.array n e))∧
  (∀fs,k=.struct fs→∃gs,P.underlying t=some (.struct gs)∧fs=gs.toList.map fun f=>(f.offset,P.cellsOf f.type,isAggB P f.type)):=by
 unfold kindOf at h;cases e:P.underlying t with
 |none=>rw[e] at h;subst h;simp|some d=>rw[e] at h;cases d<;>simp only at h<;>subst h<;>simp
theorem jC {k:TK} {c:Value} (h:eY k c=true):
  (∃e,k=.ptr e∧c=.pointer none)∨(∃e,k=.slice e∧c=.slice none 0 0)∨(∃a e,k=.map a e∧c=.map none)∨(k=.iface∧c=.nilIface)∨(k=.func∧c=.nilFunc):=by
 unfold eY at h;split at h<;>simp_all
theorem sS {P:Program} {t:TypeId} {k:TK} (hk:kindOf P t=k) {x:Value} {b:Bool} {c:Value} (hc:eY k c=true) (hx:oI x=some b) (hf:fits k (.v x)=true) (d:Nat) (w:World):
  (Op.equalIn (d+1) t x c).run P w=.ok b w∧binOp .eql t x c=(do pure (.bool (←Op.equal t x c)))∧binOp .neq t x c=(do pure (.bool (!(←Op.equal t x c)))):=by
 obtain⟨h1,h2,h3,h4,h5,h6⟩:=aS hk;rcases jC hc with ⟨T,rfl,rfl⟩|⟨T,rfl,rfl⟩|⟨K,T,rfl,rfl⟩|⟨rfl,rfl⟩|⟨rfl,rfl⟩
 ·have hu:=h1 T rfl;cases x<;>simp only[fits,Bool.false_eq_true] at hf;rename_i p;cases p<;>simp only[oI,Option.some.injEq] at hx<;>subst hx<;>exact⟨by simp[Op.equalIn,run_underlying hu],by simp only[binOp],by simp only[binOp]⟩
 ·have hu:=h2 T rfl;cases x<;>simp only[fits,Bool.false_eq_true] at hf;rename_i p _ _;cases p<;>simp only[oI,Option.some.injEq] at hx<;>subst hx<;>exact⟨by simp[Op.equalIn,run_underlying hu],by simp only[binOp],by simp only[binOp]⟩
 ·have hu:=h3 K T rfl;cases x<;>simp only[fits,Bool.false_eq_true] at hf;rename_i p;cases p<;>simp only[oI,Option.some.injEq] at hx<;>subst hx<;>exact⟨by simp[Op.equalIn,run_underlying hu],by simp only[binOp],by simp only[binOp]⟩
 ·obtain⟨ms,hu⟩:=h4 rfl;cases x<;>simp only[fits,Bool.false_eq_true] at hf<;>simp only[oI,Option.some.injEq] at hx<;>subst hx<;>exact⟨by simp[Op.equalIn,run_underlying hu],by simp only[binOp],by simp only[binOp]⟩
 ·obtain⟨_,_,_,hu⟩:=h5 rfl;cases x<;>simp only[fits,Bool.false_eq_true] at hf<;>simp only[oI,Option.some.injEq] at hx<;>subst hx<;>exact⟨by simp[Op.equalIn,run_underlying hu],by simp only[binOp],by simp only[binOp]⟩
theorem wJ {P:Program} {t:TypeId} {k:TK} (hk:kindOf P t=k) {x:Value} {b:Bool} {c:Value} (hc:eY k c=true) (hx:oI x=some b) (hf:fits k (.v x)=true) (w:World):
  (binOp .eql t x c).run P w=.ok (.bool b) w∧(binOp .neq t x c).run P w=.ok (.bool (!b)) w:=by
 obtain⟨he,h1,h2⟩:=sS hk hc hx hf 9999 w;have he:(Op.equal t x c).run P w=.ok b w:=he;rw[h1,h2];simp[he]
def rR:SV→Option ByteArray
 |.v (.string s)=>some s|_=>none
def pK (op:BinOp) (t:TypeId) (x y:Operand):SM Pay (Delta Pay):=
 (ev x).bind fun a=>(ev y).bind fun b=>
 match bG a,bG b with
 |some (l,k,n),some (l',k',n')=>
  match op with
  |.shl=>match decide (n'<0)&&l&&l' with
   |true=>.fail|false=>.ret {res:=xO AR (l&&l') .shl k n n',obl:=0≤n'}
  |.shr=>.ret {res:=xO AR (l&&l') .shr k n n',obl:=0≤n'}|_=>match decide (k=k') with
   |false=>.fail|true=>match xR AR CM (l&&l') op k n n' with
    |some (r,p)=>.ret {res:=r,obl:=p}|none=>.fail
 |_,_=>
  match a,b with
  |.bl p,.bl q=>match op,TT t with
   |.eql,some ⟨_,_,_,.bool⟩=>.ret {res:=.bl (p==q)}|.neq,some ⟨_,_,_,.bool⟩=>.ret {res:=.bl (!(p==q))}|_,_=>.fail
  |_,_=>match rR a,rR b with
   |some s,some s'=>match op with
    |.eql=>.ret {res:=.bl (SE s s')}|.neq=>.ret {res:=.bl (!(SE s s'))}|_=>.fail
   |_,_=>match y,TT t with
    |.const c,some ⟨_,_,_,k⟩=>match eY k c&&fits k a,pG a with
     |true,some n=>match op with
      |.eql=>.ret {res:=.bl n}|.neq=>.ret {res:=.bl (!n)}|_=>.fail
     |_,_=>.fail
    |_,_=>.fail
end
section
variable {Pay:Type} [PayDen Pay] {P:Program}
variable (TT:TypeId→Option TyI) (AR:lT→IntKind→Int→Int→Int) (CM:mU→Int→Int→Bool) (SE:ByteArray→ByteArray→Bool)
def seStd (a b:ByteArray):Bool:=a.toList==b.toList
structure Std (P:Program) (TT:TypeId→Option TyI) (AR:lT→IntKind→Int→Int→Int) (CM:mU→Int→Int→Bool) (SE:ByteArray→ByteArray→Bool):Prop where
 tt:∀t i,TT t=some i→TyOK P t i
 ar:AR=arStd
 cm:CM=cmStd
 se:SE=seStd
theorem dT (op:BinOp) (t:TypeId) (x y:Operand) (a b:Value) (w:World)
  (h:a≠.nilIface∨b≠.nilIface∨∃v,y=.const v) (h':∀cs,b≠.agg cs):(eqGuard op t x y a b).run P w=.ok () w:=by
 have key:∀op',(op'=.eql∨op'=.neq)→(eqGuard op' t x y a b).run P w=.ok () w:=by
  intro op' e;have e2:(match op' with|.eql=>true|.neq=>true|_=>false)=true:=by rcases e with rfl|rfl<;>rfl
  cases a with
  |nilIface=>
   cases b with
   |nilIface=>
    rcases h with h|h|⟨v,rfl⟩
    ·exact absurd rfl h
    ·exact absurd rfl h
    ·rcases e with rfl|rfl<;>simp[eqGuard]
   |_=>rcases e with rfl|rfl<;>simp[eqGuard]
  |agg cs=>
   cases b with
   |agg ds=>exact absurd rfl (h' _)|_=>rcases e with rfl|rfl<;>simp[eqGuard]
  |_=>rcases e with rfl|rfl<;>simp[eqGuard]
 cases op<;>first|exact key _ (.inl rfl)|exact key _ (.inr rfl)|rfl
theorem l9 {k:TK} {c:Value} (h:eY k c=true):∀cs,c≠.agg cs:=by intro cs e;subst e;rcases jC h with ⟨_,_,e⟩|⟨_,_,e⟩|⟨_,_,_,e⟩|⟨_,e⟩|⟨_,e⟩<;>cases e
theorem kN {x:SV} {s:ByteArray} (h:rR x=some s):x.den=.string s:=by unfold rR at h;split at h<;>simp at h;subst h;rfl
theorem uL (hS:Std P TT AR CM SE) (o:Oper) (op:BinOp) (t:TypeId) (x y:Operand) (yt:TypeId) (ho:o.op=.binOp op t x y yt):
  bT P o fun _=>(pK TT AR CM SE op t x y:SM Pay (Delta Pay)):=by
 apply bT.pure;intro σ F a w d hm hv hobl;simp only[pK,aE,Option.bind_eq_some_iff] at hv;obtain⟨va,h1,vb,h2,h3⟩:=hv;have ea:=aK hm h1;have eb:=aK hm h2;simp only[execOp,ho,ea,eb];have fin:∀r:Value,(∀g,g=(eqGuard op t x y va.den vb.den).run P w→g=.ok () w)→(binOp op t va.den vb.den).run P w=.ok r w→
   ((do eqGuard op t x y va.den vb.den;binOp op t va.den vb.den)>>=fun r=>pure (Next.value r):Sem Next).run P w=.ok (.value r) w:=by
  intro r hg hb;simp[hg _ rfl,hb]
 split at h3
 ·
  rename_i l k n l' k' n' i1 i2;have da:=d8 i1;have db:=d8 i2;simp only at da db;have hg:∀g,g=(eqGuard op t x y va.den vb.den).run P w→g=.ok () w:=fun g e=>e▸dT op t x y _ _ w (.inl (by rw[da];simp)) (by rw[db];simp);split at h3
  ·split at h3
   ·simp at h3
   ·simp only[aC,Option.some.injEq] at h3;subst h3;refine⟨rfl,rfl,fin _ hg ?_⟩;rw[da,db,sW AR hS.ar];have hp:¬n'<0:=by have:0≤n':=hobl;omega
    simp[binOp,Op.shift,hp,arStd]
  ·simp only[aC,Option.some.injEq] at h3;subst h3;refine⟨rfl,rfl,fin _ hg ?_⟩;rw[da,db,sW AR hS.ar];have hp:¬n'<0:=by have:0≤n':=hobl;omega
   simp[binOp,Op.shift,hp,arStd]
  ·split at h3
   ·simp at h3
   ·rename_i hk;have hk:k=k':=by simpa using hk
    subst hk;split at h3
    ·rename_i r p hb;simp only[aC,Option.some.injEq] at h3;subst h3;refine⟨rfl,rfl,fin _ hg ?_⟩;rw[da,db];exact xL AR CM hS.ar hS.cm hb hobl t w
    ·simp at h3
 ·split at h3
  ·
   rename_i p q _;have hgb:∀g,g=(eqGuard op t x y (SV.bl p).den (SV.bl q).den).run P w→g=.ok () w:=fun g e=>e▸dT op t x y _ _ w (.inl (by simp[SV.den])) (by simp[SV.den]);split at h3
   ·rename_i e;have hk:=(hS.tt _ _ e).kind;have hu:=(aS hk).2.2.2.2.2.1 rfl;simp only[aC,Option.some.injEq] at h3;subst h3;exact⟨rfl,rfl,fin _ hgb (run_eql_bool w t p q hu)⟩
   ·rename_i e;have hk:=(hS.tt _ _ e).kind;have hu:=(aS hk).2.2.2.2.2.1 rfl;simp only[aC,Option.some.injEq] at h3;subst h3;exact⟨rfl,rfl,fin _ hgb (run_neq_bool w t p q hu)⟩
   ·simp at h3
  ·split at h3
   ·
    rename_i s s' e1 e2;have da:=kN e1;have db:=kN e2;have hgs:∀g,g=(eqGuard op t x y va.den vb.den).run P w→g=.ok () w:=fun g e=>e▸dT op t x y _ _ w (.inl (by rw[da];simp)) (by rw[db];simp);split at h3
    ·simp only[aC,Option.some.injEq] at h3;subst h3;refine⟨rfl,rfl,fin _ hgs ?_⟩;rw[da,db];simp[binOp,Op.stringOp,SV.den,hS.se,seStd]
    ·simp only[aC,Option.some.injEq] at h3;subst h3;refine⟨rfl,rfl,fin _ hgs ?_⟩;rw[da,db];simp[binOp,Op.stringOp,SV.den,hS.se,seStd]
    ·simp at h3
   ·split at h3
    ·
     rename_i c _ _ _ k e;have hk:=(hS.tt _ _ e).kind;split at h3
     ·rename_i n hc hn;simp only[Bool.and_eq_true] at hc;have hcv:vb.den=c:=by
       simp only[ev,aC,Option.some.injEq] at h2;rw[←h2,oM]
      have hgn:∀g,g=(eqGuard op t x (.const c) va.den vb.den).run P w→g=.ok () w:=fun g e=>e▸dT op t x _ _ _ w (.inr (.inr ⟨_,rfl⟩)) (by rw[hcv];exact l9 hc.1);obtain⟨r1,r2⟩:=wJ hk hc.1 (uJ hn) (MC hc.2) w;split at h3
      ·simp only[aC,Option.some.injEq] at h3;subst h3;exact⟨rfl,rfl,fin _ hgn (by rw[hcv];exact r1)⟩
      ·simp only[aC,Option.some.injEq] at h3;subst h3;exact⟨rfl,rfl,fin _ hgn (by rw[hcv];exact r2)⟩
      ·simp at h3
     ·simp at h3
    ·simp at h3
def iI (x:Operand):SM Pay (Delta Pay):=(ev x).bind fun v=>.ret {res:=v}
theorem rS (o:Oper) (x:Operand) (ho:o.op=.move x∨o.op=.assign x):bT P o fun _=>(iI x:SM Pay (Delta Pay)):=by apply bT.pure;intro σ F a w d hm hv hobl;simp only[iI,aE,Option.bind_eq_some_iff] at hv;obtain⟨v,h1,h2⟩:=hv;simp only[aC,Option.some.injEq] at h2;subst h2;have e:=aK hm h1;refine⟨rfl,rfl,?_⟩;rcases ho with ho|ho<;>simp[execOp,ho,e]
def tM (c x y:Operand):SM Pay (Delta Pay):=(ev c).bind fun
 |.bl b=>match b with
  |true=>iI x|false=>iI y
 |_=>.fail
theorem zJ (o:Oper) (c x y:Operand) (ho:o.op=.pick c x y):bT P o fun _=>(tM c x y:SM Pay (Delta Pay)):=by
 apply bT.pure;intro σ F a w d hm hv hobl;simp only[tM,aE,Option.bind_eq_some_iff] at hv;obtain⟨v,h1,h2⟩:=hv;have e:=aK hm h1;cases v with
 |bl b=>
  cases b
  all_goals
   simp only[iI,aE,Option.bind_eq_some_iff] at h2;obtain⟨u,h3,h4⟩:=h2;simp only[aC,Option.some.injEq] at h4;subst h4;have e':=aK hm h3;exact⟨rfl,rfl,by simp[execOp,ho,e,e',SV.den,asBool]⟩
 |_=>simp at h2
def iQ (x:Operand):SM Pay (Delta Pay):=(ev x).bind fun v=>match v with
 |.ptr _ _ _=>.ret {res:=v}|.el _ _ _ _=>.ret {res:=v}|.ifc _ _=>.ret {res:=v}|.fn (.func _) _ _=>.ret {res:=v}|.hv _ x=>match x with
  |.pointer (some _)=>.ret {res:=v}|_=>.fail
 |.v x=>match x with
  |.pointer (some _)=>.ret {res:=v}|_=>.fail
 |_=>.fail
theorem rL (o:Oper) (x:Operand) (ho:o.op=.nilCheck x):bT P o fun _=>(iQ x:SM Pay (Delta Pay)):=by
 apply bT.pure;intro σ F a w d hm hv hobl;simp only[iQ,aE,Option.bind_eq_some_iff] at hv;obtain⟨v,h1,h2⟩:=hv;have e:=aK hm h1;split at h2
 ·simp only[aC,Option.some.injEq] at h2;subst h2;exact⟨rfl,rfl,by simp[execOp,ho,e,SV.den]⟩
 ·simp only[aC,Option.some.injEq] at h2;subst h2;exact⟨rfl,rfl,by simp[execOp,ho,e,SV.den]⟩
 ·simp only[aC,Option.some.injEq] at h2;subst h2;exact⟨rfl,rfl,by simp[execOp,ho,e,SV.den]⟩
 ·simp only[aC,Option.some.injEq] at h2;subst h2;exact⟨rfl,rfl,by simp[execOp,ho,e,SV.den]⟩
 ·split at h2
  ·simp only[aC,Option.some.injEq] at h2;subst h2;exact⟨rfl,rfl,by simp[execOp,ho,e,SV.den]⟩
  ·simp at h2
 ·split at h2
  ·simp only[aC,Option.some.injEq] at h2;subst h2;exact⟨rfl,rfl,by simp[execOp,ho,e,SV.den]⟩
  ·simp at h2
 ·simp at h2
def JW (op:UnOp) (x:Operand):SM Pay (Delta Pay):=(ev x).bind fun v=>match op,v with
 |.not,.bl b=>.ret {res:=.bl (!b)}|.neg,.lit k n=>.ret {res:=.lit k (arStd .sub k 0 n)}|.neg,.i k n=>.ret {res:=.i k (AR .sub k 0 n)}|_,_=>.fail
theorem HV (hS:Std P TT AR CM SE) (o:Oper) (op:UnOp) (t:TypeId) (x:Operand) (ho:o.op=.unOp op t x):bT P o fun _=>(JW AR op x:SM Pay (Delta Pay)):=by
 apply bT.pure;intro σ F a w d hm hv hobl;simp only[JW,aE,Option.bind_eq_some_iff] at hv;obtain⟨v,h1,h2⟩:=hv;have e:=aK hm h1;split at h2
 ·simp only[aC,Option.some.injEq] at h2;subst h2;exact⟨rfl,rfl,by simp[execOp,ho,e,SV.den,Op.unary]⟩
 ·simp only[aC,Option.some.injEq] at h2;subst h2;exact⟨rfl,rfl,by simp[execOp,ho,e,SV.den,Op.unary,Op.intArith,arStd]⟩
 ·simp only[aC,Option.some.injEq] at h2;subst h2;exact⟨rfl,rfl,by simp[execOp,ho,e,SV.den,Op.unary,Op.intArith,arStd,hS.ar]⟩
 ·simp at h2
def xM (dst:TypeId) (x:Operand):SM Pay (Delta Pay):=(ev x).bind fun v=>match TT dst,v with
 |some ⟨_,_,_,.int k⟩,.lit _ n=>.ret {res:=.lit k (arStd .conv k n 0)}|some ⟨_,_,_,.int k⟩,.i _ n=>.ret {res:=.i k (AR .conv k n 0)}|some ⟨_,_,_,.str⟩,.v (.string s)=>.ret {res:=.v (.string s)}|_,_=>.fail
theorem sO (hS:Std P TT AR CM SE) (o:Oper) (src dst:TypeId) (x:Operand) (ho:o.op=.convert src dst x) (hsrc:∃i,TT src=some i):bT P o fun _=>(xM TT AR dst x:SM Pay (Delta Pay)):=by
 apply bT.pure;intro σ F a w d hm hv hobl;obtain⟨i,hi⟩:=hsrc;have hsu:=(hS.tt _ _ hi).some;obtain⟨du,hsu⟩:=Option.isSome_iff_exists.1 hsu;simp only[xM,aE,Option.bind_eq_some_iff] at hv;obtain⟨v,h1,h2⟩:=hv;have e:=aK hm h1;split at h2
 ·rename_i k _ n et;have hu:=(aS (hS.tt _ _ et).kind).2.2.2.2.2.2.2.1 k rfl;simp only[aC,Option.some.injEq] at h2;subst h2;exact⟨rfl,rfl,by simp[execOp,ho,e,SV.den,convert,run_underlying hu,run_underlying hsu,Conv.intToInt,arStd]⟩
 ·rename_i k _ n et;have hu:=(aS (hS.tt _ _ et).kind).2.2.2.2.2.2.2.1 k rfl;simp only[aC,Option.some.injEq] at h2;subst h2;exact⟨rfl,rfl,by simp[execOp,ho,e,SV.den,convert,run_underlying hu,run_underlying hsu,Conv.intToInt,arStd,hS.ar]⟩
 ·rename_i s et;have hu:=(aS (hS.tt _ _ et).kind).2.2.2.2.2.2.1 rfl;simp only[aC,Option.some.injEq] at h2;subst h2;exact⟨rfl,rfl,by simp[execOp,ho,e,SV.den,convert,run_underlying hu,run_underlying hsu]⟩
 ·simp at h2
def pD (t:TypeId) (x:Operand):SM Pay (Delta Pay):=(ev x).bind fun v=>match TT t with
 |some ⟨_,_,_,.iface⟩=>.fail|some _=>.ret {res:=.ifc t v}|none=>.fail
theorem wR (hS:Std P TT AR CM SE) (o:Oper) (t:TypeId) (x:Operand) (ho:o.op=.makeInterface t x):bT P o fun _=>(pD TT t x:SM Pay (Delta Pay)):=by
 apply bT.pure;intro σ F a w d hm hv hobl;simp only[pD,aE,Option.bind_eq_some_iff] at hv;obtain⟨v,h1,h2⟩:=hv;have e:=aK hm h1;split at h2
 ·simp at h2
 ·rename_i i hne et;have hok:=hS.tt _ _ et;obtain⟨u,hu⟩:=Option.isSome_iff_exists.1 hok.some;simp only[aC,Option.some.injEq] at h2;subst h2;refine⟨rfl,rfl,?_⟩;have hk:=hok.kind;have hni:∀ms,u≠.interface ms:=by
   intro ms e2;subst e2;simp only[kindOf,hu] at hk;obtain⟨n,g,z,k⟩:=i;simp only at hk;subst hk;exact hne _ _ _ rfl
  simp only[execOp,ho,e];simp only[Instr.makeInterface,SV.den];cases u<;>first|(exact absurd rfl (hni _))|simp[run_underlying hu]
 ·simp at h2
def tL (fn:Fn) (first cap:Array Operand):SM Pay (Delta Pay):=(E1 first.toList).bind fun xs=>(E1 cap.toList).bind fun ys=>.ret {res:=.fn fn xs ys}
theorem A3 (o:Oper) (fn:Fn) (first cap:Array Operand) (ho:o.op=.makeFunc fn first cap):bT P o fun _=>(tL fn first cap:SM Pay (Delta Pay)):=by apply bT.pure;intro σ F a w d hm hv hobl;simp only[tL,aE,Option.bind_eq_some_iff] at hv;obtain⟨xs,h1,ys,h2,h3⟩:=hv;simp only[aC,Option.some.injEq] at h3;subst h3;have e1:=gH hm h1;have e2:=gH hm h2;refine⟨rfl,rfl,?_⟩;simp only[execOp,ho,Instr.makeFunc,SV.den,←e1,←e2,←Array.toList_map,Array.toArray_toList];simp
def kS (x:Operand) (n:Nat):SM Pay (Delta Pay):=(ev x).bind fun
 |.tup vs=>match vs[n]? with
  |some v=>.ret {res:=v}|none=>.fail
 |_=>.fail
theorem tN (o:Oper) (x:Operand) (n:Nat) (ho:o.op=.extract x n):bT P o fun _=>(kS x n:SM Pay (Delta Pay)):=by
 apply bT.pure;intro σ F a w d hm hv hobl;simp only[kS,aE,Option.bind_eq_some_iff] at hv;obtain⟨v,h1,h2⟩:=hv;have e:=aK hm h1;cases v with
 |tup vs=>
  simp only at h2;cases hn:vs[n]? with
  |none=>rw[hn] at h2;simp at h2|some v=>rw[hn] at h2;simp only[aC,Option.some.injEq] at h2;subst h2;exact⟨rfl,rfl,by simp[execOp,ho,e,SV.den,Instr.extract,cH,hn]⟩
 |_=>simp at h2
end
section
variable {Pay:Type} [PayDen Pay] {P:Program}
variable (TT:TypeId→Option TyI) (AR:lT→IntKind→Int→Int→Int) (CM:mU→Int→Int→Bool) (SE:ByteArray→ByteArray→Bool)
def dZ (s:TypeId) (x:Operand) (f:Nat):SM Pay (Delta Pay):=(ev x).bind fun v=>match TT s with
 |some ⟨_,_,_,.struct fs⟩=>match fs[f]? with
  |some (off,sz,_)=>match sz,v with
   |0,_=>.fail|_+1,.ptr h b o=>.ret {res:=.ptr h b (o+off)}|_+1,.hv h (.pointer (some ⟨b,o,none⟩))=>.ret {res:=.ptr h b (o+off)}|_,_=>.fail
  |none=>.fail
 |_=>.fail
theorem gA (b o n:Nat):(⟨b,o,none⟩:Addr).add n=⟨b,o+n,none⟩:=by
 unfold Addr.add;split
 ·rename_i h;subst h;rfl
 ·rfl
theorem jO {s:TypeId} {f:Nat} {fs:List (Nat×Nat×Bool)} {off sz:Nat} {g:Bool} (hk:kindOf P s=.struct fs) (hf:fs[f]?=some (off,sz+1,g)) (b o:Nat) (w:World):
  (Instr.fieldAt s (.pointer (some ⟨b,o,none⟩)) f).run P w=.ok (.pointer (some ⟨b,o+off,none⟩)) w:=by
 obtain⟨gs,hu,e⟩:=(aS hk).2.2.2.2.2.2.2.2.2 fs rfl;subst e;simp only[List.getElem?_map,Option.map_eq_some_iff] at hf;obtain⟨fd,hfd,e⟩:=hf;simp only[Prod.mk.injEq] at e;obtain⟨rfl,e2,_⟩:=e;have hfd':gs[f]?=some fd:=by simpa using hfd
 have hsz:(sizeOf fd.type).run P w=.ok (sz+1) w:=by
  unfold sizeOf typeInfo;unfold Program.cellsOf at e2;cases h:P.info? fd.type with
  |none=>rw[h] at e2;simp at e2|some i=>rw[h] at e2;simp at e2;simp[h,e2]
 simp[Instr.fieldAt,run_underlying hu,hfd',Instr.sureAddr,fieldPlace,hsz,gA]
theorem kB (hS:Std P TT AR CM SE) (o:Oper) (s:TypeId) (x:Operand) (f:Nat) (ho:o.op=.fieldAddr s x f):bT P o fun _=>(dZ TT s x f:SM Pay (Delta Pay)):=by
 apply bT.pure;intro σ F a w d hm hv hobl;simp only[dZ,aE,Option.bind_eq_some_iff] at hv;obtain⟨v,h1,h2⟩:=hv;have e:=aK hm h1;split at h2
 ·rename_i n g z fs et;have hk:=(hS.tt _ _ et).kind;split at h2
  ·rename_i off sz g' hf;split at h2
   ·simp at h2
   ·simp only[aC,Option.some.injEq] at h2;subst h2;exact⟨rfl,rfl,by simp[execOp,ho,e,SV.den,jO hk hf]⟩
   ·simp only[aC,Option.some.injEq] at h2;subst h2;exact⟨rfl,rfl,by simp[execOp,ho,e,SV.den,jO hk hf]⟩
   ·simp at h2
  ·simp at h2
 ·simp at h2
def lE (cs:List SV) (off n:Nat):List SV:=(cs.drop off).take n
def lM (t:TypeId) (x:Operand):SM Pay (Delta Pay):=(ev x).bind fun v=>match v with
 |.ptr h b off=>match TT t with
  |some ⟨n,g,_,_⟩=>match g with
   |true=>.rdC h fun
    |.raw _ b' _ cs=>match Nat.ble (off+n) cs.length with
     |true=>.ret {res:=.agg (lE cs off n),obl:=b=b'}|false=>.fail
    |_=>.fail
   |false=>.rdF h off fun _ b' _ x=>.ret {res:=x,obl:=b=b'}
  |none=>.fail
 |_=>.fail
theorem iN {t:TypeId} {i:TyI} (hT:TyOK P t i) (hg:i.agg=true) {w:World} {b off:Nat} {cs:List Value}
  (hn:cs.length=i.n) (h:∀j v,cs[j]?=some v→w.cell? ⟨b,off+j,none⟩=some v):
  (Instr.loadAt t (.pointer (some ⟨b,off,none⟩))).run P w=.ok (.agg cs.toArray) w:=by
 have h1:=hT.run_isAgg w;have h2:=hT.run_sizeOf w;have h3:=run_loadCells_list (P:=P) w ⟨b,off,none⟩ cs (fun j v hj=>by rw[gA];exact h j v hj);rw[hn] at h3;simp[Instr.loadAt,Instr.sureAddr,loadVar,h1,hg,h2,h3]
theorem cW {t:TypeId} {i:TyI} (hT:TyOK P t i) (hg:i.agg=false) {w:World} {b off:Nat} {v:Value} (h:w.cell? ⟨b,off,none⟩=some v):
  (Instr.loadAt t (.pointer (some ⟨b,off,none⟩))).run P w=.ok v w:=by
 have h1:=hT.run_isAgg w;simp[Instr.loadAt,Instr.sureAddr,loadVar,h1,hg,h]
theorem nG (hS:Std P TT AR CM SE) (o:Oper) (t:TypeId) (x:Operand) (ho:o.op=.load t x):bT P o fun _=>(lM TT t x:SM Pay (Delta Pay)):=by
 apply bT.pure;intro σ F a w d hm hv hobl;simp only[lM,aE,Option.bind_eq_some_iff] at hv;obtain⟨v,h1,h2⟩:=hv;have e:=aK hm h1;split at h2
 ·rename_i h b off;split at h2
  ·rename_i n g z k et;have hT:=hS.tt _ _ et;split at h2
   ·simp only[aQ] at h2;split at h2
    ·rename_i own b' T cs hc;split at h2
     ·rename_i hle;simp only[aC,Option.some.injEq] at h2;subst h2;have hb:b=b':=hobl;subst hb;have hle:=Nat.le_of_ble_eq_true hle;refine⟨rfl,rfl,?_⟩
      have:=iN (w:=w) (b:=b) (off:=off) (cs:=SV.dens (lE cs off n)) hT rfl (by rw[bD];simp[lE];omega) (fun j v hj=>by
       rw[cH,List.getElem?_map,Option.map_eq_some_iff] at hj;obtain⟨y,hy,rfl⟩:=hj;simp only[lE,List.getElem?_take,List.getElem?_drop] at hy;split at hy
       ·exact mF hm.2.2 hc hy
       ·cases hy)
      simp only[execOp,ho,e,SV.den];simp[this]
     ·simp at h2
    ·simp at h2
   ·simp only[oZ] at h2;split at h2
    ·rename_i own b' T y hf;simp only[aC,Option.some.injEq] at h2;subst h2;have hb:b=b':=hobl;subst hb;obtain⟨cs,hc,hx⟩:=mY hf;refine⟨rfl,rfl,?_⟩;have:=cW (w:=w) (b:=b) (off:=off) hT rfl (mF hm.2.2 hc hx);simp only[execOp,ho,e,SV.den];simp[this]
    ·cases h2
  ·simp at h2
 ·simp at h2
def pV:SV→Prop
 |.v x=>x.oneCell'=true|.hv _ x=>x.oneCell'=true|.agg _=>False|.tup _=>False|_=>True
theorem fW {x:SV} (h:pV x):x.den.oneCell'=true:=by cases x<;>first|exact h|exact h.elim|rfl
theorem dV {v:Value} (h:v.oneCell'=true):v.cells= #[v]:=by cases v<;>first|rfl|simp[Value.oneCell'] at h
def sL (h:Nat):Nat→List SV→List (W Pay)
 |_,[]=>[]|off,x::r=>.fld h off x::sL h (off+1) r
def xE:List SV→Prop
 |[]=>True|x::r=>pV x∧xE r
def kK (t:TypeId) (p x:Operand):SM Pay (Delta Pay):=(ev p).bind fun v=>(ev x).bind fun y=>match v with
 |.ptr h b off=>match TT t with
  |some ⟨n,g,_,_⟩=>match g with
   |true=>match y with
    |.agg ys=>.rdC h fun
     |.raw true b' _ cs=>match Nat.ble (off+n) cs.length&&Nat.beq ys.length n with
      |true=>.ret {res:=.v undef,ws:=sL h off ys,obl:=b=b'∧xE ys}|false=>.fail
     |_=>.fail
    |_=>.fail
   |false=>match n with
    |1=>.rdF h off fun own b' _ _=>match own with
     |true=>.ret {res:=.v undef,ws:=[.fld h off y],obl:=b=b'∧pV y}|false=>.fail
    |_=>.fail
  |none=>.fail
 |_=>.fail
theorem kW {w:World} {b off:Nat} {v u:Value} (hv:v.oneCell'=true) (h:has w (b,some off) (.val u)):
  (store ⟨b,off,none⟩ v).run P w=.ok () (w.setCell ⟨b,off,none⟩ v):=by
 rw[run_store P w _ v _ hv,h.1,h.2];rfl
theorem gF {σ:List (Cel Pay)} {F:HProp} {h b:Nat} {T:TypeId}:∀(ys:List SV) (off:Nat) (cs:List SV) (i:Nat) (σ:List (Cel Pay)) (w:World),sat w (star (big σ) F)→σ.getD h .nil=.raw true b T cs→
  off+i+ys.length≤cs.length→xE ys→∃w',(storeCells ⟨b,off,none⟩ (SV.dens ys) i).run P w=.ok () w'∧sat w' (star (big (puts (sL h (off+i) ys) σ)) F)
 |[],off,cs,i,σ,w,hs,_,_,_=>⟨w,by simp[storeCells,SV.dens],by simpa [sL,puts] using hs⟩|y::ys,off,cs,i,σ,w,hs,hc,hl,ho=>by
  simp only[List.length_cons] at hl;have hlt:off+i<cs.length:=by omega
  have hx:=pE hs hc (List.getElem?_eq_getElem hlt);have h1:=kW (P:=P) (fW ho.1) hx;have h2:=A5 hs hc hlt y;have hp:h<σ.length:=by
   rcases Nat.lt_or_ge h σ.length with h|h
   ·exact h
   ·rw[List.getD_eq_getElem?_getD,List.getElem?_eq_none h] at hc;simp at hc
  have hc2:(bW (Cel.setF (off+i) y) h σ).getD h .nil=(.raw true b T (cs.set (off+i) y):Cel Pay):=by rw[cM _ _ _ _ hp,hc];rfl
  obtain⟨w',h3,h4⟩:=gF (σ:=σ) ys off (cs.set (off+i) y) (i+1) _ _ h2 hc2 (by simp;omega) ho.2;refine⟨w',?_,?_⟩
  ·simp[storeCells,SV.dens,gA,h1,h3]
  ·simpa [sL,puts,W.put,Nat.add_assoc] using h4
theorem fK {t:TypeId} {i:TyI} (hT:TyOK P t i) {w w':World} {b off:Nat} {v:Value} (hn:v.cells.size=i.n)
  (h:(storeCells ⟨b,off,none⟩ v.cells.toList 0).run P w=.ok () w'):(Instr.storeAt t (.pointer (some ⟨b,off,none⟩)) v).run P w=.ok () w':=by
 have h2:=hT.run_sizeOf w;simp[Instr.storeAt,Instr.sureAddr,storeVar,h2,hn,h]
theorem qF (hS:Std P TT AR CM SE) (o:Oper) (t:TypeId) (p x:Operand) (ho:o.op=.store t p x):bT P o fun _=>(kK TT t p x:SM Pay (Delta Pay)):=by
 intro σ F a w next Q hm hv _ hk
 obtain⟨d,hv,hobl⟩:=hv (fun _=>0);have hk:=fun w'=>hk (fun _=>0) d w' hv;left;simp only[kK,aE,Option.bind_eq_some_iff] at hv;obtain⟨v,h1,y,h1',h2⟩:=hv;have e:=aK hm h1;have e':=aK hm h1';have fin:∀w',d.res=.v undef→d.fact=none→(Instr.storeAt t v.den y.den).run P w=.ok () w'→sat w' (star (big (puts d.ws σ.heap)) F)→o.wp P a w next Q:=by intro w' hr hf hrun hs;unfold Oper.wp;have:=hk w' (by rw[Delta.factP,hf];trivial) hs;rw[hr] at this;simp[execOp,ho,e,e',hrun,Oper.upon];exact this
 split at h2
 ·rename_i h b off;split at h2
  ·rename_i n g z k et;have hT:=hS.tt _ _ et;split at h2
   ·split at h2
    ·rename_i ys;simp only[aQ] at h2;split at h2
     ·rename_i b' T cs hc;split at h2
      ·rename_i hle;simp only[aC,Option.some.injEq] at h2;subst h2;obtain⟨hb,hone⟩:=hobl;subst hb;rw[Bool.and_eq_true] at hle;have hle1:=Nat.le_of_ble_eq_true hle.1;have hle2:=Nat.eq_of_beq_eq_true hle.2;obtain⟨w',h3,h4⟩:=gF (P:=P) (σ:=σ.heap) (F:=F) ys off cs 0 σ.heap w hm.2.2 hc (by omega) hone;refine fin w' rfl rfl ?_ (by simpa using h4);exact fK hT (by simp[SV.den,Value.cells,bD,hle2]) (by simpa [SV.den,Value.cells] using h3)
      ·simp at h2
     ·simp at h2
    ·simp at h2
   ·split at h2
    ·simp only[oZ] at h2;split at h2
     ·rename_i own b' T u hf;split at h2
      ·simp only[aC,Option.some.injEq] at h2;subst h2;obtain⟨hb,hone⟩:=hobl;subst hb;obtain⟨cs,hc,hx⟩:=mY hf;have hlt:off<cs.length:=(List.getElem?_eq_some_iff.1 hx).1;obtain⟨w',h3,h4⟩:=gF (P:=P) (σ:=σ.heap) (F:=F) [y] off cs 0 σ.heap w hm.2.2 hc (by simp;omega) ⟨hone,trivial⟩;refine fin w' rfl rfl ?_ (by simpa [sL] using h4);have hcell:=dV (fW hone);exact fK hT (by rw[hcell];rfl) (by rw[hcell];simpa [SV.dens] using h3)
      ·simp at h2
     ·cases h2
    ·simp at h2
  ·simp at h2
 ·simp at h2
theorem G2 {σ:List (Cel Pay)} {F:HProp} {w:World} {base:Nat} (hb:σ.getD base .nil=.free) (cs:List SV) (T:TypeId) (own:Bool) (h:sat w (star (big σ) F)):
  sat {w with heap:=w.heap.push (.cells (SV.dens cs).toArray T)} (star (big (σ.set base (.raw own w.heap.size T cs))) F):=by
 have hp:base<σ.length:=by
  rcases Nat.lt_or_ge base σ.length with h|h
  ·exact h
  ·rw[List.getD_eq_getElem?_getD,List.getElem?_eq_none h] at hb;simp at hb
 have h1:=jI (p:=base) h;rw[hb] at h1;simp only[Cel.den,aH] at h1;have h2:=eX own (SV.dens cs) T h1;rw[dW _ _ _ hp,aA];simpa [Cel.den,bD] using h2
theorem bT.new {o:Oper} {base:Nat} {f:(Nat→Nat)→SM Pay (Delta Pay)}
  (h:∀(σ:St Pay) (F:HProp) (a:Act) (w:World) (β:Nat→Nat) (d:Delta Pay),cD σ F a w→(f β).val σ=some d→d.obl→σ.heap.getD base .nil=.free∧d.fact=none∧
   ∃cs T,d.ws=[.cel base (.raw true (β 0) T cs)]∧(β 0=w.heap.size→(execOp a.eval o).run P w=.ok (.value d.res.den) {w with heap:=w.heap.push (.cells (SV.dens cs).toArray T)})):
  bT P o f:=by
 intro σ F a w next Q hm hv _ hk
 obtain⟨d,hv,hobl⟩:=hv (fun _=>w.heap.size);obtain⟨hb,hf,cs,T,hws,hrun⟩:=h σ F a w _ d hm hv hobl;left;unfold Oper.wp;rw[hrun rfl];refine hk _ d _ hv (by rw[Delta.factP,hf];trivial) ?_;rw[hws];exact G2 hb cs T true hm.2.2
def yC (base:Nat) (T:TypeId) (x:Operand) (β:Nat→Nat):SM Pay (Delta Pay):=(ev x).bind fun v=>.rdC base fun
 |.free=>match v with
  |.agg cs=>.ret {res:=.ptr base (β 0) 0,ws:=[.cel base (.raw true (β 0) T cs)]}|y=>.ret {res:=.ptr base (β 0) 0,ws:=[.cel base (.raw true (β 0) T [y])],obl:=pV y}
 |_=>.fail
theorem B9 (o:Oper) (base:Nat) (T:TypeId) (x:Operand) (ho:o.op=.box T x):bT P o (yC base T x:(Nat→Nat)→SM Pay (Delta Pay)):=by
 refine bT.new (base:=base) ?_;intro σ F a w β d hm hv hobl;simp only[yC,aE,Option.bind_eq_some_iff] at hv;obtain⟨v,h1,h2⟩:=hv;have e:=aK hm h1;simp only[aQ] at h2;split at h2
 ·rename_i hfree;refine⟨hfree,?_⟩;split at h2
  ·simp only[aC,Option.some.injEq] at h2;subst h2;exact⟨rfl,_,_,rfl,fun hb=>by simp[execOp,ho,e,SV.den,Instr.box,newVar,newRow,Value.cells,hb]⟩
  ·simp only[aC,Option.some.injEq] at h2;subst h2;have hc:=dV (fW hobl);refine⟨rfl,_,_,rfl,fun hb=>?_⟩;simp[execOp,ho,e,Instr.box,newVar,newRow,hc,hb,SV.dens,SV.den]
 ·simp at h2
def pH (base:Nat) (T:TypeId) (β:Nat→Nat):SM Pay (Delta Pay):=.rdC base fun
 |.free=>match TT T with
  |some ⟨_,_,z,_⟩=>match z with
   |.agg cs=>.ret {res:=.ptr base (β 0) 0,ws:=[.cel base (.raw true (β 0) T cs)]}|y=>.ret {res:=.ptr base (β 0) 0,ws:=[.cel base (.raw true (β 0) T [y])],obl:=pV y}
  |none=>.fail
 |_=>.fail
theorem wF (hS:Std P TT AR CM SE) (o:Oper) (base:Nat) (T:TypeId) (ho:o.op=.alloc T):bT P o (pH TT base T:(Nat→Nat)→SM Pay (Delta Pay)):=by
 refine bT.new (base:=base) ?_;intro σ F a w β d hm h2 hobl;simp only[pH,aQ] at h2;split at h2
 ·rename_i hfree;refine⟨hfree,?_⟩;split at h2
  ·rename_i et;have hT:=hS.tt _ _ et;have hz:=hT.run_zero w;simp only at hz;split at h2
   ·simp only[aC,Option.some.injEq] at h2;subst h2;exact⟨rfl,_,_,rfl,fun hb=>by simp[execOp,ho,Instr.alloc,hz,SV.den,newVar,newRow,Value.cells,hb]⟩
   ·simp only[aC,Option.some.injEq] at h2;subst h2;have hc:=dV (fW hobl);refine⟨rfl,_,_,rfl,fun hb=>?_⟩;simp[execOp,ho,Instr.alloc,hz,newVar,newRow,hc,hb,SV.dens,SV.den]
  ·simp at h2
 ·simp at h2
end
section
variable {Pay:Type} [PayDen Pay] {P:Program}
variable (TT:TypeId→Option TyI) (AR:lT→IntKind→Int→Int→Int) (CM:mU→Int→Int→Bool) (SE:ByteArray→ByteArray→Bool)
def fY:SV→List SV
 |.agg cs=>cs|x=>[x]
def yA:SV→Prop
 |.agg _=>True|x=>pV x
def kT (cs:List SV) (off:Nat):List SV→List SV
 |[]=>cs|x::r=>kT (cs.set off x) (off+1) r
def lI (place:Nat→Option (Nat×Nat)):List SV→List (Nat×SV)→Option (List SV)
 |cs,[]=>some cs|cs,(i,v)::rest=>match place i with
  |none=>none|some (off,size)=>match Nat.beq (fY v).length size&&Nat.ble (off+size) cs.length with
   |true=>lI place (kT cs off (fY v)) rest|false=>none
def kF:List (Nat×SV)→Prop
 |[]=>True|(_,v)::r=>yA v∧kF r
theorem rH {v:SV} (h:yA v):v.den.cells=(SV.dens (fY v)).toArray:=by
 cases v with
 |agg cs=>rfl|_=>exact dV (fW h)
theorem mG:∀(xs cs:List SV) (off j0:Nat),
  ((SV.dens xs).zipIdx j0).foldl (fun(a:Array Value) (c:Value×Nat)=>a.setIfInBounds (off+c.2) c.1) (SV.dens cs).toArray=(SV.dens (kT cs (off+j0) xs)).toArray
 |[],cs,off,j0=>rfl|x::xs,cs,off,j0=>by
  simp only[SV.dens,List.zipIdx_cons,List.foldl_cons,kT];have h1:(SV.dens cs).toArray.setIfInBounds (off+j0) x.den=(SV.dens (cs.set (off+j0) x)).toArray:=by simp[cH,List.map_set]
  rw[h1,mG xs _ off (j0+1)];rfl
theorem mM {place:Nat→Option (Nat×Nat)}:∀(ps:List (Nat×SV)) (cs rs:List SV),lI place cs ps=some rs→kF ps→
  Instr.fill place (SV.dens cs).toArray (ps.map fun p=>(p.1,p.2.den))=some (SV.dens rs).toArray
 |[],cs,rs,h,_=>by simp only[lI,Option.some.injEq] at h;subst h;rfl
 |(i,v)::ps,cs,rs,h,ho=>by
  simp only[lI] at h;simp only[List.map_cons,Instr.fill];cases hp:place i with
  |none=>rw[hp] at h;cases h|some x=>
   obtain⟨off,size⟩:=x;rw[hp] at h;simp only at h⊢;split at h
   ·rename_i hb;rw[Bool.and_eq_true] at hb;have h1:=Nat.eq_of_beq_eq_true hb.1;have h2:=Nat.le_of_ble_eq_true hb.2;have hc:=rH ho.1;have hsz:v.den.cells.size=size:=by rw[hc];simp[bD,h1]
    have hn:¬(v.den.cells.size≠size∨off+v.den.cells.size>(SV.dens cs).toArray.size):=by rw[hsz];simp[bD];omega
    have hfold:Array.foldl (fun(cs:Array Value) (x:Value×Nat)=>cs.setIfInBounds (off+x.2) x.1) (SV.dens cs).toArray v.den.cells.zipIdx=(SV.dens (kT cs off (fY v))).toArray:=by rw[hc,←Array.foldl_toList];have:=mG (fY v) cs off 0;simpa using this
    rw[if_neg (by simpa using hn)];rw[show (Array.foldl (fun cs x=>match x with|(c,j)=>cs.setIfInBounds (off+j) c) (SV.dens cs).toArray v.den.cells.zipIdx)=(SV.dens (kT cs off (fY v))).toArray from hfold];exact mM ps _ rs h ho.2
   ·cases h
def k9:List (Nat×Operand)→SM Pay (List (Nat×SV))
 |[]=>.ret []|(i,x)::r=>(ev x).bind fun v=>(k9 r).bind fun vs=>.ret ((i,v)::vs)
theorem iF {σ:St Pay} {F:HProp} {a:Act} {w:World} (hm:cD σ F a w):∀{xs:List (Nat×Operand)} {vs:List (Nat×SV)},(k9 xs:SM Pay (List (Nat×SV))).val σ=some vs→
  xs.map (fun p=>(p.1,a.eval p.2))=vs.map fun p=>(p.1,p.2.den)
 |[],vs,h=>by simp only[k9,aC,Option.some.injEq] at h;subst h;rfl
 |(i,x)::xs,vs,h=>by simp only[k9,aE,Option.bind_eq_some_iff] at h;obtain⟨v,h1,us,h2,h3⟩:=h;simp only[aC,Option.some.injEq] at h3;subst h3;simp only[List.map_cons,aK hm h1,iF hm h2]
def pC (fs:List (Nat×Nat×Bool)) (i:Nat):Option (Nat×Nat):=match fs[i]? with
 |some (off,sz,_)=>some (off,sz)|none=>none
def mN (t:TypeId) (parts:Array (Nat×Operand)):SM Pay (Delta Pay):=(k9 parts.toList).bind fun ps=>match TT t with
 |some ⟨_,_,.agg z,.struct fs⟩=>match lI (pC fs) z ps with
  |some cs=>.ret {res:=.agg cs,obl:=kF ps}|none=>.fail
 |some ⟨_,_,.agg z,.array _ e⟩=>match TT e with
  |some ⟨n,_,_,_⟩=>match lI (fun i=>some (i*n,n)) z ps with
   |some cs=>.ret {res:=.agg cs,obl:=kF ps}|none=>.fail
  |none=>.fail
 |_=>.fail
theorem hY {t:TypeId} {n:Nat} (h:P.cellsOf t=n) (hs:(P.info? t).isSome=true) (w:World):(sizeOf t).run P w=.ok n w:=by obtain⟨i,hi⟩:=Option.isSome_iff_exists.1 hs;simp[sizeOf,typeInfo,hi];simpa [Program.cellsOf,hi] using h
theorem nY (w:World):∀(gs:List Field),(∀f∈gs,(P.info? f.type).isSome=true)→
  (gs.mapM fun(f:Field)=>(do pure (f.offset,←sizeOf f.type):Sem (Nat×Nat))).run P w=.ok (gs.map fun f=>(f.offset,P.cellsOf f.type)) w
 |[],_=>rfl|f::gs,h=>by have h1:=hY (P:=P) rfl (h f (List.mem_cons_self ..)) w;have ih:=nY w gs fun g hg=>h g (List.mem_cons_of_mem _ hg);simp only[List.mapM_cons,Sem.run_bind,h1,Result.andThen_ok,Sem.run_pure,ih,List.map_cons]
theorem xP (hS:Std P TT AR CM SE) (o:Oper) (t:TypeId) (parts:Array (Nat×Operand)) (ho:o.op=.build t parts)
  (hfi:∀gs,P.underlying t=some (.struct gs)→∀f∈gs.toList,(P.info? f.type).isSome=true):bT P o fun _=>(mN TT t parts:SM Pay (Delta Pay)):=by
 apply bT.pure;intro σ F a w d hm hv hobl;simp only[mN,aE,Option.bind_eq_some_iff] at hv;obtain⟨ps,h1,h2⟩:=hv;have e:=iF hm h1;have ep:(parts.map fun(i,x)=>(i,a.eval x)).toList=ps.map fun p=>(p.1,p.2.den):=by rw[←e];simp
 split at h2
 ·rename_i n g z fs et;have hT:=hS.tt _ _ et;obtain⟨gs,hu,efs⟩:=(aS hT.kind).2.2.2.2.2.2.2.2.2 fs rfl;have hz:=hT.run_zero w;simp only at hz;split at h2
  ·rename_i cs hfill;simp only[aC,Option.some.injEq] at h2;subst h2;refine⟨rfl,rfl,?_⟩;have hf:=mM ps z cs hfill hobl;have hpl:∀i,(gs.toList.map fun f=>(f.offset,P.cellsOf f.type)).toArray[i]?=pC fs i:=by
    intro i;subst efs;simp only[pC,List.getElem?_map,List.getElem?_toArray];cases gs.toList[i]?<;>rfl
   have hmp:=nY (P:=P) w gs.toList (hfi gs hu);have hmp':(gs.mapM fun(f:Field)=>(do pure (f.offset,←sizeOf f.type):Sem (Nat×Nat))).run P w=.ok (gs.toList.map fun f=>(f.offset,P.cellsOf f.type)).toArray w:=by rw[Array.mapM_eq_mapM_toList];rw[Sem.run_map,hmp];rfl
   simp only[execOp,ho];simp only[Instr.build,Sem.run_bind,hz,Result.andThen_ok,run_underlying hu,SV.den,Value.cells,hmp',ep];have hfun:(fun x=>(gs.toList.map fun f=>(f.offset,P.cellsOf f.type)).toArray[x]?)=pC fs:=funext hpl;rw[hfun,hf];rfl
  ·simp at h2
 ·rename_i n g z len el et;have hT:=hS.tt _ _ et;have hu:=(aS hT.kind).2.2.2.2.2.2.2.2.1 len el rfl;have hz:=hT.run_zero w;simp only at hz;split at h2
  ·rename_i n' g' z' k' et';have hT':=hS.tt _ _ et';have hs':=hT'.run_sizeOf w;simp only at hs';split at h2
   ·rename_i cs hfill;simp only[aC,Option.some.injEq] at h2;subst h2;refine⟨rfl,rfl,?_⟩;have hf:=mM ps z cs hfill hobl;simp only[execOp,ho];simp only[Instr.build,Sem.run_bind,hz,Result.andThen_ok,run_underlying hu,SV.den,Value.cells,hs',ep,hf];rfl
   ·simp at h2
  ·simp at h2
 ·simp at h2
def eH (z:List SV):Nat→List SV
 |0=>[]|n+1=>z++eH z n
def jY:SV→Option (List SV)
 |.agg cs=>some cs|.tup _=>none|x=>some [x]
def yX:SV→Prop
 |.agg _=>True|x=>pV x
theorem rN (z:List SV) (n:Nat):(SV.dens (eH z n))=(List.range (n*z.length)).map fun i=>(SV.dens z).getD (i % z.length) default:=by
 induction n with
 |zero=>simp[eH,SV.dens]|succ n ih=>
  have hd:SV.dens (z++eH z n)=SV.dens z++SV.dens (eH z n):=by simp[cH]
  simp only[eH,hd,ih];rw[Nat.succ_mul,Nat.add_comm (n*z.length),List.range_add,List.map_append];congr 1
  ·apply List.ext_getElem
   ·simp[bD]
   ·intro i h1 h2;simp only[List.getElem_map,List.getElem_range];rw[bD] at h1;rw[Nat.mod_eq_of_lt h1];simp[List.getD_eq_getElem?_getD,bD,h1]
  ·rw[List.map_map];apply List.map_congr_left;intro i _;simp
def fT (base:Nat) (t:TypeId) (len:Nat) (parts:Array (Nat×Operand)) (β:Nat→Nat):SM Pay (Delta Pay):=(k9 parts.toList).bind fun ps=>.rdC base fun
 |.free=>match TT t with
  |some ⟨_,_,_,.slice e⟩=>match TT e with
   |some ⟨n,_,z,_⟩=>match jY z with
    |some zs=>match Nat.ble (len*n) 4096&&Nat.beq zs.length n with
     |true=>match lI (fun i=>some (i*n,n)) (eH zs len) ps with
      |some cs=>.ret {res:=.hv base (.slice (some ⟨β 0,0,none⟩) len len),ws:=[.cel base (.raw true (β 0) e cs)],obl:=kF ps∧yX z}|none=>.fail
     |false=>.fail
    |none=>.fail
   |none=>.fail
  |_=>.fail
 |_=>.fail
theorem rI {z:SV} {zs:List SV} (h:jY z=some zs) (ho:yX z):z.den.cells=(SV.dens zs).toArray:=by cases z<;>simp only[jY,Option.some.injEq,reduceCtorEq] at h<;>subst h<;>first|rfl|exact dV (fW ho)
theorem oS (hS:Std P TT AR CM SE) (o:Oper) (base:Nat) (t:TypeId) (len:Nat) (parts:Array (Nat×Operand)) (ho:o.op=.buildSlice t len parts):
  bT P o (fT TT base t len parts:(Nat→Nat)→SM Pay (Delta Pay)):=by
 refine bT.new (base:=base) ?_;intro σ F a w β d hm hv hobl;simp only[fT,aE,Option.bind_eq_some_iff] at hv;obtain⟨ps,h1,h2⟩:=hv;have e:=iF hm h1;have ep:(parts.map fun(i,x)=>(i,a.eval x)).toList=ps.map fun p=>(p.1,p.2.den):=by rw[←e];simp
 simp only[aQ] at h2;split at h2
 ·rename_i hfree;refine⟨hfree,?_⟩;split at h2
  ·rename_i el et;have hu:=(aS (hS.tt _ _ et).kind).2.1 el rfl;split at h2
   ·rename_i n g z k et';have hT:=hS.tt _ _ et';have hz:=hT.run_zero w;have hs:=hT.run_sizeOf w;simp only at hz hs;split at h2
    ·rename_i zs hzs;split at h2
     ·rename_i hb;simp only[Bool.and_eq_true] at hb;have h3:=Nat.le_of_ble_eq_true hb.1;have h4:=Nat.eq_of_beq_eq_true hb.2;split at h2
      ·rename_i cs hfill;simp only[aC,Option.some.injEq] at h2;subst h2;obtain⟨hob1,hob2⟩:=hobl;refine⟨rfl,cs,el,rfl,fun hbl=>?_⟩;have hf:=mM ps _ cs hfill hob1;have hzc:=rI hzs hob2;have hrep:((Array.range (len*n)).map fun i=>(SV.dens zs).toArray[i %(SV.dens zs).toArray.size]!)=(SV.dens (eH zs len)).toArray:=by
        rw[rN,h4];apply Array.ext';simp only[Array.toList_map,Array.toList_range,List.size_toArray,bD,h4];apply List.map_congr_left;intro i _;simp[List.getD_eq_getElem?_getD,getElem!_def];cases (SV.dens zs)[i % n]?<;>rfl
       simp only[execOp,ho];have h6:¬len*n>2^24:=by omega
       by_cases h7:len*n=0
       ·have e0:(SV.dens (eH zs len)).toArray= #[]:=by
         rw[←hrep,h7];simp
        rw[e0] at hf;have e1:(Array.range 0).map (fun i=>(#[]:Array Value)[i %(#[]:Array Value).size]!)= #[]:=by simp
        have h8:¬(0:Nat)>2^24:=by decide
        simp only[Instr.buildSlice,Sem.run_bind,run_underlying hu,Result.andThen_ok,hs,h7,h8,if_false,if_true,Sem.run_pure,e1,ep,hf,newRow,run_newObj,SV.den,hbl]
       simp only[Instr.buildSlice,Sem.run_bind,run_underlying hu,Result.andThen_ok,hs,h6,if_false,h7,hz,hzc,Sem.run_pure,hrep,ep,hf,newRow,run_newObj,SV.den,hbl]
      ·simp at h2
     ·simp at h2
    ·simp at h2
   ·simp at h2
  ·simp at h2
 ·simp at h2
def eK:SV→Option (Nat⊕Int)
 |.lit _ n=>match n with
  |.ofNat m=>some (.inl m)|_=>none
 |.i _ n=>some (.inr n)|_=>none
def d7 (t:TypeId) (x i:Operand):SM Pay (Delta Pay):=(ev x).bind fun v=>(ev i).bind fun j=>match TT t,v with
 |some ⟨_,_,_,.array len e⟩,.ptr h b off=>match TT e,j with
  |some ⟨n,_,_,_⟩,.lit _ (.ofNat m)=>match Nat.blt m len with
   |true=>.ret {res:=.ptr h b (off+m*n)}|false=>.fail
  |some ⟨n,_,_,_⟩,.i _ m=>.ret {res:=.ptr h b (off+m.toNat*n),obl:=0≤m∧m<len}|_,_=>.fail
 |some ⟨_,_,_,.slice e⟩,.hv h (.slice (some ⟨b,off,none⟩) len _)=>match TT e,j with
  |some ⟨n,_,_,_⟩,.lit _ (.ofNat m)=>.ret {res:=.ptr h b (off+m*n),obl:=m<len}|some ⟨n,_,_,_⟩,.i _ m=>.ret {res:=.ptr h b (off+m.toNat*n),obl:=0≤m∧m<len}|_,_=>.fail
 |_,_=>.fail
theorem lC {t e:TypeId} {len n:Nat} (hu:P.underlying t=some (.array len e)) (w:World) (hs:(sizeOf e).run P w=.ok n w) (b off:Nat) (k:IntKind) (m:Int) (h0:0≤m) (h1:m<len):
  (Instr.indexAt t (.pointer (some ⟨b,off,none⟩)) (.int k m)).run P w=.ok (.pointer (some ⟨b,off+m.toNat*n,none⟩)) w:=by
 simp[Instr.indexAt,asIntOf,run_underlying hu,Instr.sureAddr,h0,h1,hs,gA]
theorem cX {t e:TypeId} {len cap n:Nat} (hu:P.underlying t=some (.slice e)) (w:World) (hs:(sizeOf e).run P w=.ok n w) (b off:Nat) (k:IntKind) (m:Int) (h0:0≤m) (h1:m<len):
  (Instr.indexAt t (.slice (some ⟨b,off,none⟩) len cap) (.int k m)).run P w=.ok (.pointer (some ⟨b,off+m.toNat*n,none⟩)) w:=by
 simp[Instr.indexAt,asIntOf,run_underlying hu,h0,h1,hs,gA]
theorem kA (hS:Std P TT AR CM SE) (o:Oper) (t:TypeId) (x i:Operand) (ho:o.op=.indexAddr t x i):bT P o fun _=>(d7 TT t x i:SM Pay (Delta Pay)):=by
 apply bT.pure;intro σ F a w d hm hv hobl;simp only[d7,aE,Option.bind_eq_some_iff] at hv;obtain⟨v,h1,j,h1',h2⟩:=hv;have e1:=aK hm h1;have e2:=aK hm h1';split at h2
 ·rename_i n0 g0 z0 len el h b off et;have hu:=(aS (hS.tt _ _ et).kind).2.2.2.2.2.2.2.2.1 len el rfl;split at h2
  ·rename_i n g z k kk m et';have hs:=(hS.tt _ _ et').run_sizeOf w;split at h2
   ·rename_i hb;simp only[aC,Option.some.injEq] at h2;subst h2;have hb:m<len:=by have:=Nat.le_of_ble_eq_true hb;exact this
    refine⟨rfl,rfl,?_⟩;have:=lC hu w hs b off kk (Int.ofNat m) (by simp) (by simpa using hb);simp only[Int.ofNat_eq_natCast,Int.toNat_natCast] at this;simp only[execOp,ho,e1,e2,SV.den];simp[this]
   ·simp at h2
  ·rename_i n g z k kk m et';have hs:=(hS.tt _ _ et').run_sizeOf w;simp only[aC,Option.some.injEq] at h2;subst h2;refine⟨rfl,rfl,?_⟩;have:=lC hu w hs b off kk m hobl.1 hobl.2;simp only[execOp,ho,e1,e2,SV.den];simp[this]
  ·simp at h2
 ·rename_i n0 g0 z0 el h b off len cap et;have hu:=(aS (hS.tt _ _ et).kind).2.1 el rfl;split at h2
  ·rename_i n g z k kk m et';have hs:=(hS.tt _ _ et').run_sizeOf w;simp only[aC,Option.some.injEq] at h2;subst h2;have hb:m<len:=hobl;refine⟨rfl,rfl,?_⟩;have:=cX (cap:=cap) hu w hs b off kk (Int.ofNat m) (by simp) (by simpa using hb);simp only[Int.ofNat_eq_natCast,Int.toNat_natCast] at this;simp only[execOp,ho,e1,e2,SV.den];simp[this]
  ·rename_i n g z k kk m et';have hs:=(hS.tt _ _ et').run_sizeOf w;simp only[aC,Option.some.injEq] at h2;subst h2;refine⟨rfl,rfl,?_⟩;have:=cX (cap:=cap) hu w hs b off kk m hobl.1 hobl.2;simp only[execOp,ho,e1,e2,SV.den];simp[this]
  ·simp at h2
 ·simp at h2
def lU (t:TypeId) (x:Operand) (f:Nat):SM Pay (Delta Pay):=(ev x).bind fun v=>match TT t,v with
 |some ⟨_,_,_,.struct fs⟩,.agg cs=>match fs[f]? with
  |some (off,sz,true)=>.ret {res:=.agg (lE cs off sz)}|some (off,_,false)=>match cs[off]? with
   |some y=>.ret {res:=y}|none=>.fail
  |none=>.fail
 |_,_=>.fail
theorem xD (hS:Std P TT AR CM SE) (o:Oper) (t:TypeId) (x:Operand) (f:Nat) (ho:o.op=.field t x f)
  (hfi:∀gs,P.underlying t=some (.struct gs)→∀f∈gs.toList,(P.info? f.type).isSome=true∧(P.underlying f.type).isSome=true):bT P o fun _=>(lU TT t x f:SM Pay (Delta Pay)):=by
 apply bT.pure;intro σ F a w d hm hv hobl;simp only[lU,aE,Option.bind_eq_some_iff] at hv;obtain⟨v,h1,h2⟩:=hv;have e:=aK hm h1;split at h2
 ·rename_i fs cs et;obtain⟨gs,hu,efs⟩:=(aS (hS.tt _ _ et).kind).2.2.2.2.2.2.2.2.2 fs rfl;have key:∀off sz g,fs[f]?=some (off,sz,g)→∃fd,gs[f]?=some fd∧fd.offset=off∧P.cellsOf fd.type=sz∧isAggB P fd.type=g∧fd∈gs.toList:=by
   intro off sz g hf;subst efs;simp only[List.getElem?_map,Option.map_eq_some_iff] at hf;obtain⟨fd,hfd,e⟩:=hf;simp only[Prod.mk.injEq] at e;exact⟨fd,by simpa using hfd,e.1,e.2.1,e.2.2,List.mem_of_getElem? hfd⟩
  have agg:∀fd∈gs.toList,(isAgg fd.type).run P w=.ok (isAggB P fd.type) w:=by intro fd hfd;obtain⟨u,hu2⟩:=Option.isSome_iff_exists.1 (hfi gs hu fd hfd).2;simp only[isAgg,Sem.run_bind,run_underlying hu2,Result.andThen_ok,isAggB,hu2];cases u<;>rfl
  split at h2
  ·rename_i off sz hf;obtain⟨fd,h3,h4,h5,h6,h7⟩:=key _ _ _ hf;simp only[aC,Option.some.injEq] at h2;subst h2;have hs:=hY (P:=P) h5 (hfi gs hu fd h7).1 w;have ha:=agg fd h7;rw[h6] at ha;refine⟨rfl,rfl,?_⟩;simp only[execOp,ho,e,SV.den];simp only[Instr.field,Sem.run_bind,run_underlying hu,Result.andThen_ok,h3,asAgg,Sem.run_pure,part,ha,if_true,hs,h4];congr 3;simp[cH,lE,List.map_drop,List.map_take]
  ·rename_i off sz hf;obtain⟨fd,h3,h4,h5,h6,h7⟩:=key _ _ _ hf;have ha:=agg fd h7;rw[h6] at ha;split at h2
   ·rename_i y hy;simp only[aC,Option.some.injEq] at h2;subst h2;refine⟨rfl,rfl,?_⟩;simp only[execOp,ho,e,SV.den];simp only[Instr.field,Sem.run_bind,run_underlying hu,Result.andThen_ok,h3,asAgg,Sem.run_pure,part,ha,h4];simp[cH,hy]
   ·simp at h2
  ·simp at h2
 ·simp at h2
end
section
variable {Pay:Type} [PayDen Pay] {P:Program}
def DV (mk:Nat→Nat) (R:List Nat):Prop:=match R with
 |[]=>True|p::R2=>(∀i,i<p→(mk p).testBit i=true)∧∀j∈R2,(mk j).testBit p=true
theorem AM {ops:Array Oper} {f:Nat→(Nat→Nat)→SM Pay (Delta Pay)} {items:Nat→xC Pay} {mk:Nat→Nat} {K:St Pay→Prop} {Q:Exit→Act→World→Prop} {F:HProp}
  {R:List Nat} {n0:Nat}
  (hit:∀i o,i∉R→ops[i]?=some o→items i=tS ops.toList o (f i)) (hf:∀i o,ops[i]?=some o→eG P o (f i))
  (hout:True)
  (hlt:∀j o,ops[j]?=some o→∀i∈d9 o,i<j)
  (hmk:∀j o,ops[j]?=some o→∀i,(mk j).testBit i=true→∃p∈d9 o,p=i∨(mk p).testBit i=true)
  (hB:DV mk R)
  (hEnd:∀(listed:Array Bool) (σ:St Pay) (a:Act) (w:World),(∀i,i∈R↔(i<ops.size∧listed.getD i true=false))→listed.size=ops.size→
   (∀j,j<ops.size→listed.getD j true=true→∀i,(mk j).testBit i=true→i<ops.size→listed.getD i true=true)→K σ→cD σ F a w→wpAny P .any ops Q n0 listed a w):
  ∀(k:Nat) (listed:Array Bool) (T:List Nat) (σ:St Pay) (a:Act) (w:World),
   (T++R).Pairwise (·<·)→(∀i,i∈T++R↔(i<ops.size∧listed.getD i true=false))→listed.size=ops.size→
   (∀j,j<ops.size→listed.getD j true=true→∀i,(mk j).testBit i=true→i<ops.size→listed.getD i true=true)→
   Inv items mk K T σ→cD σ F a w→T.length=k→wpAny P .any ops Q (n0+k) listed a w:=by
 intro k;induction k with
 |zero=>intro listed T σ a w hpw hT hsz hcl hinv hm hfu;have hT0:T=[]:=List.eq_nil_of_length_eq_zero (by omega);subst hT0;obtain⟨σ',R',h1,_,_,h4⟩:=hinv (fun _ _=>0);simp only[fA,Option.some.injEq,Prod.mk.injEq] at h1;obtain⟨rfl,rfl⟩:=h1;exact hEnd listed σ a w (by simpa using hT) hsz hcl (h4 (by simp)) hm
 |succ k ih=>
  intro listed T σ a w hpw0 hT0 hsz hcl hinv hm hfu;have hpw:T.Pairwise (·<·):=hpw0.sublist (List.sublist_append_left _ _);have hTR:∀x∈T,∀y∈R,x<y:=fun x hx y hy=>(List.pairwise_append.1 hpw0).2.2 x hx y hy;have hready:∀i,i∈Region.ready .any ops listed→∃o,ops[i]?=some o∧i∈T∧∀p∈d9 o,listed.getD p false=true:=by
   intro i hi;unfold Region.ready at hi;rw[List.mem_filter,List.mem_range] at hi;obtain⟨h1,h2⟩:=hi;rw[Bool.and_eq_true,Bool.not_eq_true'] at h2;obtain⟨h2,h3⟩:=h2;cases ho:ops[i]? with
   |none=>rw[ho] at h3;simp at h3|some o=>
    rw[ho] at h3;simp only[Option.map_some,Option.getD_some,Array.all_eq_true_iff_forall_mem] at h3;have hpre:∀p∈d9 o,listed.getD p false=true:=fun p hp=>by obtain⟨e,he,hb,rfl⟩:=oF hp;have:=h3 e he;rw[hb] at this;simpa using this
    refine⟨o,rfl,?_,hpre⟩;rcases List.mem_append.1 ((hT0 i).2 ⟨h1,h2⟩) with h|h
    ·exact h
    ·exfalso;have hun:∃x,x<ops.size∧listed.getD x true=false∧(mk i).testBit x=true:=by
      cases R with
      |nil=>cases h|cons p R2=>
       have hpR:=(hT0 p).1 (List.mem_append_right _ (List.mem_cons_self ..));rcases List.mem_cons.1 h with h|h
       ·subst h;cases T with
        |nil=>simp at hfu|cons x T=>have hx:=(hT0 x).1 (List.mem_append_left _ (List.mem_cons_self ..));exact⟨x,hx.1,hx.2,hB.1 x (hTR x (List.mem_cons_self ..) i (List.mem_cons_self ..))⟩
       ·exact⟨p,hpR.1,hpR.2,hB.2 i h⟩
     obtain⟨x,hx1,hx2,hx3⟩:=hun;obtain⟨p,hp,h⟩:=hmk i o ho x hx3;have hp1:=hpre p hp;have hp2:p<ops.size:=by have:=hlt i o ho p hp;omega
     have hp3:listed.getD p true=true:=by
      have hs:p<listed.size:=by omega
      simp only[Array.getD_eq_getD_getElem?,hs,Array.getElem?_eq_getElem,Option.getD_some] at hp1⊢;exact hp1
     rcases h with rfl|h
     ·rw[hp3] at hx2;cases hx2
     ·have:=hcl p hp2 hp3 x h hx1;rw[this] at hx2;cases hx2
  show wpAny P .any ops Q ((n0+k)+1) listed a w;refine⟨fun hr=>?_,fun i hi=>?_⟩
  ·exfalso;cases T with
   |nil=>simp at hfu|cons i T=>
     have ⟨h1,h2⟩:=(hT0 i).1 (List.mem_append_left _ (List.mem_cons_self ..));have ho:ops[i]?=some ops[i]:=by simp[h1]
     have:i∈Region.ready .any ops listed:=by
      unfold Region.ready;rw[List.mem_filter,List.mem_range];refine⟨h1,?_⟩;rw[Bool.and_eq_true,Bool.not_eq_true',ho];refine⟨h2,?_⟩;simp only[Option.map_some,Option.getD_some,Array.all_eq_true_iff_forall_mem];intro e he;cases hb:Region.binds .any e with
      |false=>rfl|true=>
       have hlt':=hlt i _ ho e.on (oK he hb);have hlt'':e.on<ops.size:=by omega
       have hne:e.on∉(i::T)++R:=fun hm=>by
        rw[List.cons_append] at hm hpw0;rcases List.mem_cons.1 hm with h|h
        ·omega
        ·have:=(List.pairwise_cons.1 hpw0).1 _ h;omega
       have:=mt (hT0 e.on).2 hne;simp only[not_and] at this;have:=this hlt'';have hs:e.on<listed.size:=by omega
       simp only[Array.getD_eq_getD_getElem?,hs,Array.getElem?_eq_getElem,Option.getD_some] at this⊢;cases hh:listed[e.on]<;>simp_all
     rw[hr] at this;cases this
  ·obtain⟨o,ho,hiT,hpre⟩:=hready i hi;have hiR:i∉R:=fun h=>Nat.lt_irrefl _ (hTR i hiT i h);have hin:i<ops.size:=((hT0 i).1 (List.mem_append_left _ hiT)).1;obtain⟨A,B,rfl⟩:=List.append_of_mem hiT;have hfree:∀x∈A,(mk i).testBit x=false:=by
    intro x hx;cases hb:(mk i).testBit x with
    |false=>rfl|true=>
     exfalso;have ⟨hx1,hx2⟩:=(hT0 x).1 (List.mem_append_left _ (List.mem_append_left _ hx));obtain⟨p,hp,h⟩:=hmk i o ho x hb;have hp1:=hpre p hp;have hp2:p<ops.size:=by have:=hlt i o ho p hp;omega
     have hp3:listed.getD p true=true:=by
      have hs:p<listed.size:=by omega
      simp only[Array.getD_eq_getD_getElem?,hs,Array.getElem?_eq_getElem,Option.getD_some] at hp1⊢;exact hp1
     rcases h with rfl|h
     ·rw[hp3] at hx2;cases hx2
     ·have:=hcl p hp2 hp3 x h hx1;rw[this] at hx2;cases hx2
   have hfront:∀β,∃σ' s R,fA items β (i::(A++B)) σ=some (σ',s::R)∧xK mk R=true∧s.d.obl∧(∀r∈R,r.d.obl)∧(s.d.factP→(∀r∈R,r.d.factP)→K σ'):=by
    intro β;obtain⟨σ',R,h1,h2,h3,h4⟩:=hinv β;have hmap:=uY _ h1
    obtain⟨s,RA,RB,rfl,hs,hA,hrun⟩:=LK items A h1 (fun r s hr hs hrA hsi=>by
     obtain⟨RA,s',RB,hR,hRA,hs'⟩:∃RA s' RB,R=RA++s'::RB∧RA.map mV.i=A∧s'.i=i:=by obtain⟨RA,R2,e1,e2,e3⟩:=List.map_eq_append_iff.1 hmap;obtain⟨s',RB,e4,e5,e6⟩:=List.map_eq_cons_iff.1 e3;exact⟨RA,s',RB,by rw[e1,e4],e2,e5⟩
     subst hR;have ⟨hc,_⟩:=rQ h2;have nd:(A++i::B).Nodup:=List.Pairwise.imp (fun h=>Nat.ne_of_lt h) hpw;have hrRA:r∈RA:=by
      rcases List.mem_append.1 hr with h|h
      ·exact h
      ·exfalso;have h5:r.i∈i::B:=by
        rcases List.mem_cons.1 h with h|h
        ·rw[h,hs'];exact List.mem_cons_self ..
        ·refine List.mem_cons_of_mem _ ?_;have:(s'::RB).map mV.i=i::B:=by
          have:=hmap;simp only[List.map_append,hRA] at this;exact List.append_cancel_left this
         simp only[List.map_cons,List.cons.injEq] at this;rw[←this.2];exact List.mem_map.2 ⟨r,h,rfl⟩
       exact(List.nodup_append.1 nd).2.2 _ hrA _ h5 rfl
     have hss:s=s':=by
      rcases List.mem_append.1 hs with h|h
      ·exfalso;have h5:s.i∈A:=by rw[←hRA];exact List.mem_map.2 ⟨s,h,rfl⟩
       rw[hsi] at h5;exact(List.nodup_append.1 nd).2.2 _ h5 _ (List.mem_cons_self ..) rfl
      ·rcases List.mem_cons.1 h with h|h
       ·exact h
       ·exfalso;have h6:(s'::RB).map mV.i=i::B:=by
         have:=hmap;simp only[List.map_append,hRA] at this;exact List.append_cancel_left this
        simp only[List.map_cons,List.cons.injEq] at h6;have h5:s.i∈B:=by rw[←h6.2];exact List.mem_map.2 ⟨s,h,rfl⟩
        rw[hsi] at h5;exact(List.nodup_cons.1 (List.nodup_append.1 nd).2.1).1 h5
     subst hss;rcases hc r hrRA with h|h
     ·rw[hs',hfree _ hrA] at h;cases h
     ·exact h)
    have ⟨_,hc2⟩:=rQ h2;refine⟨σ',s,RA++RB,hrun,hc2,h3 s (by simp),fun r hr=>h3 r ?_,fun hf1 hf2=>h4 fun r hr=>?_⟩
    ·rcases List.mem_append.1 hr with h|h<;>simp[h]
    ·rcases List.mem_append.1 hr with h|h
     ·exact hf2 r (List.mem_append_left _ h)
     ·rcases List.mem_cons.1 h with h|h
      ·rw[h];exact hf1
      ·exact hf2 r (List.mem_append_right _ h)
   have hgo:∀x:Nat→Nat,∃d l,((items i).m x).go σ []=some (d,l)∧d.obl∧(d.factP→Inv items mk K (A++B) (σ.put (items i).dst d)):=by
    intro x;have key:∀γ:Nat→Nat→Nat,∃d l σ' R,((items i).m x).go σ []=some (d,l)∧d.obl∧fA items γ (A++B) (σ.put (items i).dst d)=some (σ',R)∧
      xK mk R=true∧(∀r∈R,r.d.obl)∧(d.factP→(∀r∈R,r.d.factP)→K σ'):=by
     intro γ;obtain⟨σ',s,R,h1,h2,h3,h4,h5⟩:=hfront (fun j=>if j=i then x else γ j);simp only[fA,eQ,if_true] at h1;cases e:((items i).m x).go σ [] with
     |none=>rw[e] at h1;cases h1|some y=>
      obtain⟨d,l⟩:=y;rw[e] at h1;simp only at h1;have nd:(A++i::B).Nodup:=List.Pairwise.imp (fun h=>Nat.ne_of_lt h) hpw
      have hcong:=pU (items:=items) (β:=fun j=>if j=i then x else γ j) (γ:=γ) (A++B) (σ.put (items i).dst d) (fun j hj=>by
       have:j≠i:=fun e=>by
        subst e;rcases List.mem_append.1 hj with h|h
        ·exact(List.nodup_append.1 nd).2.2 _ h _ (List.mem_cons_self ..) rfl
        ·exact(List.nodup_cons.1 (List.nodup_append.1 nd).2.1).1 h
       simp[this])
      rw[hcong] at h1;cases e2:fA items γ (A++B) (σ.put (items i).dst d) with
      |none=>rw[e2] at h1;cases h1|some z=>obtain⟨σ₂,xs⟩:=z;rw[e2] at h1;simp only[Option.some.injEq,Prod.mk.injEq,List.cons.injEq] at h1;obtain⟨rfl,rfl,rfl⟩:=h1;exact⟨d,l,σ₂,xs,rfl,h3,e2,h2,h4,h5⟩
    obtain⟨d,l,_,_,e,hobl,_⟩:=key (fun _ _=>0);refine⟨d,l,e,hobl,fun hfact γ=>?_⟩;obtain⟨d',l',σ',R,e',h1,h2,h3,h4,h5⟩:=key γ;rw[e] at e';cases e';exact⟨σ',R,h2,h3,h4,h5 hfact⟩
   have hnext:∀(d:Delta Pay) (w':World),Inv items mk K (A++B) (σ.put (items i).dst d)→sat w' (star (big (puts d.ws σ.heap)) F)→
     wpAny P .any ops Q (n0+k) (listed.setIfInBounds i true) (a.put o.dst d.res.den) w':=by
    intro d w' hI hs;have hdst:(items i).dst=o.dst:=by rw[hit i o hiR ho];rfl
    refine ih _ (A++B) (σ.put (items i).dst d) _ w' ?_ ?_ ?_ ?_ hI ?_ ?_
    ·exact hpw0.sublist (List.Sublist.append_right (List.Sublist.append_left (List.sublist_cons_self ..) A) R)
    ·intro j
     by_cases hj:j=i
     ·subst hj;have nd:(A++j::B).Nodup:=List.Pairwise.imp (fun h=>Nat.ne_of_lt h) hpw;have hs:j<listed.size:=by omega
      constructor
      ·intro h;rcases List.mem_append.1 h with h|h
       case inr=>exact absurd h hiR
       rcases List.mem_append.1 h with h|h
       ·exact absurd rfl ((List.nodup_append.1 nd).2.2 _ h _ (List.mem_cons_self ..))
       ·exact absurd h (List.nodup_cons.1 (List.nodup_append.1 nd).2.1).1
      ·rintro⟨_,h⟩;simp[hs] at h
     ·have h1:j∈A++B++R↔j∈A++i::B++R:=by simp[hj]
      rw[h1,hT0 j];simp only[Array.getD_eq_getD_getElem?,Array.getElem?_setIfInBounds_ne (Ne.symm hj)]
    ·simp[hsz]
    ·intro j hj hl x hx hxs;have hs:i<listed.size:=by omega
     by_cases hxi:x=i
     ·subst hxi;simp[hs]
     ·simp only[Array.getD_eq_getD_getElem?,Array.getElem?_setIfInBounds_ne (Ne.symm hxi)]
      by_cases hj':j=i
      ·subst hj';obtain⟨p,hp,h⟩:=hmk j o ho x hx;have hp1:=hpre p hp;have hp2:p<ops.size:=by have:=hlt j o ho p hp;omega
       have hp3:listed.getD p true=true:=by
        have hs:p<listed.size:=by omega
        simp only[Array.getD_eq_getD_getElem?,hs,Array.getElem?_eq_getElem,Option.getD_some] at hp1⊢;exact hp1
       rcases h with rfl|h
       ·simpa [Array.getD_eq_getD_getElem?] using hp3
       ·have:=hcl p hp2 hp3 x h hxs;simpa [Array.getD_eq_getD_getElem?] using this
      ·have hl':listed.getD j true=true:=by
        simpa only[Array.getD_eq_getD_getElem?,Array.getElem?_setIfInBounds_ne (Ne.symm hj')] using hl
       have:=hcl j hj hl' x hx hxs;simpa [Array.getD_eq_getD_getElem?] using this
    ·obtain⟨m1,m2,m3⟩:=hm;refine⟨?_,?_,hs⟩
     ·rw[hdst];cases hd:o.dst with
      |none=>simpa [Act.put,St.put] using m1|some t=>simp only[Act.put,St.put,m1,cH];simp[List.map_set]
     ·cases o.dst<;>simpa [Act.put] using m2
    ·simp at hfu⊢;omega
   unfold wpOp;rw[ho];show if Region.wanted o (yielded ops a.tmps)=true then _ else _
   have hmi:∀x,(items i).m x=(dX ops.toList o).bind fun b=>match b with|true=>f i x|false=>.ret {res:=.v undef}:=by
    intro x;rw[hit i o hiR ho];rfl
   have hg:∃b l,(dX ops.toList o:SM Pay Bool).go σ []=some (b,l):=by
    obtain⟨d,l,e,_⟩:=hgo (fun _=>0);rw[hmi,pF] at e;cases hh:(dX ops.toList o:SM Pay Bool).go σ [] with
    |none=>rw[hh] at e;cases e|some y=>exact⟨y.1,y.2,rfl⟩
   obtain⟨b,lg,hg⟩:=hg;have hw:=lK hm.1 hg;rw[hw];have hgo2:∀x,((items i).m x).go σ []=(match b with|true=>f i x|false=>(.ret {res:=.v undef}:SM Pay (Delta Pay))).go σ lg:=by
    intro x;rw[hmi,pF,hg];rfl
   cases b with
   |false=>simp only[Bool.false_eq_true,if_false];obtain⟨d,l,e,_,hI⟩:=hgo (fun _=>0);rw[hgo2] at e;simp only[SM.go,Option.some.injEq,Prod.mk.injEq] at e;obtain⟨rfl,rfl⟩:=e;exact hnext {res:=.v undef} w (hI trivial) (by simpa [puts] using hm.2.2)
   |true=>
    simp only[if_true];have hgo3:∀x,∃d l,(f i x).go σ []=some (d,l)∧d.obl∧(d.factP→Inv items mk K (A++B) (σ.put (items i).dst d)):=by
     intro x;obtain⟨d,l,e,h1,h2⟩:=hgo x;rw[hgo2,F6] at e;cases hh:(f i x).go σ [] with
     |none=>simp only[hh,Option.map_none] at e;cases e|some y=>simp only[hh,Option.map_some,Option.some.injEq,Prod.mk.injEq] at e;obtain⟨y1,y2⟩:=y;obtain⟨rfl,rfl⟩:=e;exact⟨_,_,rfl,h1,h2⟩
    refine hf i o ho σ F a w _ Q hm (fun x=>?_) hout (fun x d l w' e hfact hs=>?_)
    ·obtain⟨d,l,e,h1,_⟩:=hgo3 x;exact⟨d,l,e,h1⟩
    ·obtain⟨d',l',e',_,hI⟩:=hgo3 x;rw[e] at e';cases e';exact hnext d w' (hI hfact) hs
end
inductive Ex where
 |normal|exit (id:Nat)|ret
def Ex.to:Ex→Exit
 |.normal=>.normal|.exit id=>.exit id|.ret=>.ret
section
variable {Pay:Type} [PayDen Pay] {P:Program}
def jT:List Oper→List Nat→List Nat
 |[],acc=>acc|o::r,acc=>jT r (acc++[(d9 o).foldl (fun s p=>s|||(1<<<p)|||acc.getD p 0) 0])
def fN (l:List Oper):List Nat:=jT l []
theorem pQ (acc:List Nat):∀(ps:List Nat) (s i:Nat),(ps.foldl (fun s p=>s|||(1<<<p)|||acc.getD p 0) s).testBit i=true→
  s.testBit i=true∨∃p∈ps,p=i∨(acc.getD p 0).testBit i=true
 |[],s,i,h=>.inl h|p::ps,s,i,h=>by
  rcases pQ acc ps _ i h with h|⟨q,hq,h⟩
  ·simp only[Nat.testBit_or,Bool.or_eq_true] at h;rcases h with (h|h)|h
   ·exact .inl h
   ·right;refine⟨p,List.mem_cons_self ..,.inl ?_⟩;rw[Nat.one_shiftLeft,Nat.testBit_two_pow] at h;simpa using h
   ·exact .inr ⟨p,List.mem_cons_self ..,.inr h⟩
  ·exact .inr ⟨q,List.mem_cons_of_mem _ hq,h⟩
theorem jE:∀(l:List Oper) (acc:List Nat),∃ext,jT l acc=acc++ext∧ext.length=l.length∧
  ∀j o,l[j]?=some o→∀i,((jT l acc).getD (acc.length+j) 0).testBit i=true→∃p∈d9 o,p=i∨((jT l acc).getD p 0).testBit i=true
 |[],acc=>⟨[],by simp[jT],rfl,fun j o h=>by simp at h⟩|o::r,acc=>by
  obtain⟨ext,h1,h2,h3⟩:=jE r (acc++[(d9 o).foldl (fun s p=>s|||(1<<<p)|||acc.getD p 0) 0]);refine⟨_::ext,by rw[jT,h1];simp;rfl,by simp[h2],fun j o' hj i hi=>?_⟩;rw[jT] at hi⊢;cases j with
  |zero=>
   simp only[List.getElem?_cons_zero,Option.some.injEq] at hj;subst hj;rw[h1] at hi;have e:(acc++[(d9 o).foldl (fun s p=>s|||(1<<<p)|||acc.getD p 0) 0]++ext).getD (acc.length+0) 0=(d9 o).foldl (fun s p=>s|||(1<<<p)|||acc.getD p 0) 0:=by simp[List.getD_eq_getElem?_getD]
   rw[e] at hi;rcases pQ acc (d9 o) 0 i hi with h|⟨p,hp,h⟩
   ·simp at h
   ·refine⟨p,hp,h.imp id fun h=>?_⟩;rw[h1]
    by_cases hlt:p<acc.length
    ·have:(acc++[(d9 o).foldl (fun s p=>s|||(1<<<p)|||acc.getD p 0) 0]++ext).getD p 0=acc.getD p 0:=by
      simp[List.getD_eq_getElem?_getD,List.getElem?_append,hlt,Nat.lt_succ_of_lt hlt]
     rw[this];exact h
    ·rw[List.getD_eq_getElem?_getD,List.getElem?_eq_none (by omega)] at h;simp at h
  |succ j=>have:=h3 j o' (by simpa using hj) i (by simpa [Nat.add_assoc,Nat.add_comm 1 j] using hi);exact this
theorem xU (l:List Oper) (j:Nat) (o:Oper) (h:l[j]?=some o) (i:Nat) (hi:((fN l).getD j 0).testBit i=true):
  ∃p∈d9 o,p=i∨((fN l).getD p 0).testBit i=true:=by
 obtain⟨_,_,_,h3⟩:=jE l [];exact h3 j o h i (by simpa [fN] using hi)
abbrev RD:=Nat×Nat×List Key×List Key
def nocD (r s:RD):Bool:=!gN r.2.2.2 s.2.2.1&& !gN r.2.2.2 s.2.2.2&& !gN s.2.2.2 r.2.2.1
def fM:List RD→Bool
 |[]=>true|s::rs=>(rs.all fun r=>s.2.1.testBit r.1||nocD r s)&&fM rs
variable (f:Oper→Nat→(Nat→Nat)→SM Pay (Delta Pay)) (nf:Oper→Nat) (nd:Oper→Bool) (CK:List RD→Bool)
variable (ST:Code→St Pay→(Ex→St Pay→Prop)→Prop)
variable (PV:List Nat→Nat→Bool) (pv:Oper→Bool) (xo:Oper→Nat→St Pay→(SV→List (Cel Pay)→Prop)→Prop)
def gD (mk:List Nat) (i:Nat):Bool:=((List.range i).all fun j=>(mk.getD i 0).testBit j)&&((List.range' (i+1) (mk.length-(i+1))).all fun j=>(mk.getD j 0).testBit i)
def St.to (σ:St Pay) (dst:Option Tmp) (v:SV) (hp:List (Cel Pay)):St Pay:=match dst with
 |none=>⟨σ.tmps,hp⟩|some t=>⟨σ.tmps.set t v,hp⟩
def cE (P:Program) (F:HProp) (o:Oper) (g:St Pay→(SV→List (Cel Pay)→Prop)→Prop):Prop:=
 ∀(σ:St Pay) (a:Act) (w:World) (next:Act→World→Prop) (Q:Exit→Act→World→Prop) (K:SV→List (Cel Pay)→Prop),
  cD σ F a w→g σ K→(True)→(∀v hp w',K v hp→sat w' (star (big hp) F)→next (a.put o.dst v.den) w')→
  o.wp P a w next Q∨(o.asks P a w∧LetsOut Q)
def zM:Option Prop→Option Prop→Option Prop
 |none,q=>q|p,none=>p|some p,some q=>some (p∧q)
theorem EU (p q:Option Prop):pZ (zM p q)↔pZ p∧pZ q:=by cases p<;>cases q<;>simp[zM,pZ]
def dY (all:List Oper) (mk:List Nat) (K:St Pay→Prop):List Oper→(Nat→Nat→Nat)→Nat→Nat→St Pay→List RD→Prop→Option Prop→Prop
 |[],_,_,_,σ,recs,obl,fact=>CK recs=true∧obl∧match fact with
  |none=>K σ|some p=>p→K σ
 |o::r,β,i,base,σ,recs,obl,fact=>match pv o with
  |true=>PV mk i=true∧CK recs=true∧obl∧match fact with
   |none=>(dX all o).goK σ [] fun b _=>match b with
    |true=>xo o base σ fun v hp=>∀β',dY all mk K r β' (i+1) (base+nf o) (σ.to o.dst v hp) [] True none|false=>∀β',dY all mk K r β' (i+1) (base+nf o) (σ.to o.dst (.v undef) σ.heap) [] True none
   |some p=>p→(dX all o).goK σ [] fun b _=>match b with
    |true=>xo o base σ fun v hp=>∀β',dY all mk K r β' (i+1) (base+nf o) (σ.to o.dst v hp) [] True none|false=>∀β',dY all mk K r β' (i+1) (base+nf o) (σ.to o.dst (.v undef) σ.heap) [] True none
  |false=>(dX all o).goK σ [] fun b l=>match b with
   |true=>(f o base (β i)).goK σ l fun d l'=>dY all mk K r β (i+1) (base+nf o) (σ.put o.dst d) ((i,mk.getD i 0,l',wk o.dst d.ws)::recs) (obl∧d.obl) (zM fact d.fact)|false=>dY all mk K r β (i+1) (base+nf o) (σ.put o.dst {res:=.v undef}) ((i,mk.getD i 0,l,wk o.dst ([]:List (W Pay)))::recs) obl fact
def gZ (all:List Oper) (K:St Pay→Prop):List Oper→Nat→St Pay→Prop
 |[],_,σ=>K σ|o::r,base,σ=>(dX all o).goK σ [] fun b _=>match b with
  |false=>gZ all K r (base+nf o) (σ.put o.dst {res:=.v undef})|true=>match pv o with
   |true=>xo o base σ fun v hp=>gZ all K r (base+nf o) (σ.to o.dst v hp)|false=>match nd o with
    |false=>(f o base (fun _=>0)).goK σ [] fun d _=>d.obl∧match d.fact with
     |none=>gZ all K r (base+nf o) (σ.put o.dst d)|some p=>p→gZ all K r (base+nf o) (σ.put o.dst d)
    |true=>∀β,(f o base β).goK σ [] fun d _=>d.obl∧match d.fact with
     |none=>gZ all K r (base+nf o) (σ.put o.dst d)|some p=>p→gZ all K r (base+nf o) (σ.put o.dst d)
def mS:List Oper→Nat
 |[]=>0|o::r=>nf o+mS r
def St.room (σ:St Pay) (n:Nat):St Pay:=match n with
 |0=>σ|n+1=>{σ with heap:=σ.heap++List.replicate (n+1) .free}
def seqK (g:St Pay→(Ex→St Pay→Prop)→Prop) (K:Ex→St Pay→Prop) (e:Ex) (σ':St Pay):Prop:=match e with
 |.normal=>g σ' K|.exit id=>K (.exit id) σ'|.ret=>K .ret σ'
def DD (id:Nat) (K:Ex→St Pay→Prop) (e:Ex) (σ':St Pay):Prop:=match e with
 |.exit j=>match Nat.beq j id with
  |true=>K .normal σ'|false=>K (.exit j) σ'
 |.normal=>K .normal σ'|.ret=>K .ret σ'
def nS:Code→St Pay→(Ex→St Pay→Prop)→Prop
 |.skip,σ,K=>K .normal σ|.region _ ops draw,σ,K=>match draw with
  |false=>gZ f nf nd pv xo ops.toList (K .normal) ops.toList σ.heap.length (σ.room (mS nf ops.toList))|true=>∀β,dY f nf CK PV pv xo ops.toList (fN ops.toList) (K .normal) ops.toList β 0 σ.heap.length (σ.room (mS nf ops.toList)) [] True none
 |.seq a b,σ,K=>nS a σ (seqK (nS b) K)|.cond c x y,σ,K=>(ev c).goK σ [] fun v _=>match v with
  |.bl b=>match b with
   |true=>nS x σ K|false=>nS y σ K
  |_=>False
 |.block id body,σ,K=>nS body σ (DD id K)|.exit id,σ,K=>K (.exit id) σ|.ret,σ,K=>K .ret σ|c,σ,K=>ST c σ K
def dD:Code→Bool
 |.region _ ops draw=>!draw||(ops.toList.zipIdx.all fun x=>(d9 x.1).all fun p=>Nat.blt p x.2)|.seq a b=>dD a&&dD b|.cond _ x y=>dD x&&dD y|.block _ b=>dD b|_=>true
def KV (P:Program) (F:HProp) (c:Code) (σ:St Pay) (K:Ex→St Pay→Prop):Prop:=
 ∀(Q:Exit→Act→World→Prop) (a:Act) (w:World),(True)→(∀e σ' a w,K e σ'→cD σ' F a w→Q e.to a w)→cD σ F a w→c.wp P Q a w
theorem uR {σ:St Pay} {F:HProp} {a:Act} {w:World} (h:cD σ F a w) (n:Nat):cD (σ.room n) F a w:=by
 cases n with
 |zero=>exact h|succ n=>refine⟨h.1,h.2.1,?_⟩;have:=h.2.2;simpa [St.room,bF,sE,aO] using this
theorem qS {σ:St Pay} {F:HProp} {a:Act} {w w':World} {dst:Option Tmp} {d:Delta Pay} (h:cD σ F a w) (hs:sat w' (star (big (puts d.ws σ.heap)) F)):
  cD (σ.put dst d) F (a.put dst d.res.den) w':=by
 obtain⟨h1,h2,h3⟩:=h;refine⟨?_,?_,hs⟩
 ·cases dst with
  |none=>simpa [Act.put,St.put] using h1|some t=>simp only[Act.put,St.put,h1,cH];simp[List.map_set]
 ·cases dst<;>simpa [Act.put] using h2
theorem rP {σ:St Pay} {F:HProp} {a:Act} {w w':World} {dst:Option Tmp} {v:SV} {hp:List (Cel Pay)} (h:cD σ F a w) (hs:sat w' (star (big hp) F)):
  cD (σ.to dst v hp) F (a.put dst v.den) w':=by
 obtain⟨h1,h2,h3⟩:=h;refine⟨?_,?_,?_⟩
 ·cases dst with
  |none=>simpa [Act.put,St.to] using h1|some t=>simp only[Act.put,St.to,h1,cH];simp[List.map_set]
 ·cases dst<;>simpa [Act.put] using h2
 ·cases dst<;>simpa [St.to] using hs
theorem gL (hf:∀o base,eG P o (f o base)) (hnd:∀o base,nd o=false→∀β β',f o base β=f o base β') {F:HProp} (hx:∀o base,pv o=true→cE P F o (xo o base)) {Q:Exit→Act→World→Prop} {ops:Array Oper} {K:St Pay→Prop}
  (hout:True) (hK:∀σ a w,K σ→cD σ F a w→Q .normal a w):
  ∀(r:List Oper) (base:Nat) (σ:St Pay) (a:Act) (w:World),gZ f nf nd pv xo ops.toList K r base σ→cD σ F a w→wpList P ops Q r a w
 |[],base,σ,a,w,h,hm=>hK σ a w h hm|o::r,base,σ,a,w,h,hm=>by
  simp only[gZ,bO] at h;obtain⟨b,l,hg,h⟩:=h;have hw:=lK hm.1 hg;unfold wpList;rw[hw];cases b with
  |false=>simp only[Bool.false_eq_true,if_false];refine gL hf hnd hx hout hK r _ _ _ w h ?_;exact qS (d:={res:=.v undef}) hm (by simpa [puts] using hm.2.2)|true=>
   simp only[if_true];cases hp:pv o with
   |true=>rw[hp] at h;exact hx o base hp σ a w _ Q _ hm h hout fun v hp' w' hk hs=>gL hf hnd hx hout hK r _ _ _ w' hk (rP hm hs)|false=>
   rw[hp] at h;have opt:∀d:Delta Pay,(match d.fact with|none=>gZ f nf nd pv xo ops.toList K r (base+nf o) (σ.put o.dst d)|some p=>p→gZ f nf nd pv xo ops.toList K r (base+nf o) (σ.put o.dst d))→d.factP→gZ f nf nd pv xo ops.toList K r (base+nf o) (σ.put o.dst d):=by
    intro d hd hf;unfold Delta.factP at hf;cases e:d.fact with
    |none=>rw[e] at hd;exact hd|some p=>rw[e] at hd hf;exact hd hf
   have key:∀β,∃d l,(f o base β).go σ []=some (d,l)∧d.obl∧(d.factP→gZ f nf nd pv xo ops.toList K r (base+nf o) (σ.put o.dst d)):=by
    cases hn:nd o with
    |false=>rw[hn] at h;simp only[bO] at h;obtain⟨d,l,h1,h2⟩:=h;intro β;exact⟨d,l,by rw[hnd o base hn β (fun _=>0)];exact h1,h2.1,opt d h2.2⟩
    |true=>rw[hn] at h;simp only[bO] at h;intro β;obtain⟨d,l,h1,h2⟩:=h β;exact⟨d,l,h1,h2.1,opt d h2.2⟩
   refine hf o base σ F a w _ Q hm (fun β=>?_) hout (fun β d l w' e hfact hs=>?_)
   ·obtain⟨d,l,h1,h2,_⟩:=key β;exact⟨d,l,h1,h2⟩
   ·obtain⟨d',l',h1,_,h3⟩:=key β;rw[e] at h1;cases h1;exact gL hf hnd hx hout hK r _ _ _ w' (h3 hfact) (qS hm hs)
def r9:List Oper→Nat→List Nat
 |[],_=>[]|o::r,b=>b::r9 r (b+nf o)
def fB (ops:List Oper) (base:Nat) (i:Nat):xC Pay:=match ops[i]? with
 |some o=>tS ops o (f o ((r9 nf ops base).getD i 0))|none=>{dst:=none,m:=fun _=>.fail}
def BQ (mk:List Nat) (r:mV Pay):RD:=(r.i,mk.getD r.i 0,r.reads,r.writes)
theorem wD (all:List Oper):∀(base:Nat) (i:Nat) (o:Oper) (pre:List Oper) (r:List Oper),all=pre++o::r→i=pre.length→(r9 nf all base).getD i 0=base+mS nf pre:=by
 intro base i o pre;induction pre generalizing base i all with
 |nil=>intro r e hi;subst e;subst hi;simp[r9,mS]|cons x pre ih=>intro r e hi;subst e;subst hi;simp only[List.cons_append,r9,List.length_cons,List.getD_cons_succ,mS];rw[ih (pre++o::r) (base+nf x) pre.length r rfl rfl];omega
def BS (all:List Oper) (mk:List Nat) (K:St Pay→Prop) (i base:Nat) (r:List Oper) (σ:St Pay):Prop:=match r with
 |[]=>K σ|o::r=>(dX all o).goK σ [] fun b _=>match b with
  |true=>xo o base σ fun v hp=>∀β',dY f nf CK PV pv xo all mk K r β' (i+1) (base+nf o) (σ.to o.dst v hp) [] True none|false=>∀β',dY f nf CK PV pv xo all mk K r β' (i+1) (base+nf o) (σ.to o.dst (.v undef) σ.heap) [] True none
theorem qG (x y:List Oper):mS nf (x++y)=mS nf x+mS nf y:=by
 induction x with
 |nil=>simp[mS]|cons a x ih=>simp[mS,ih];omega
theorem j9 {all:List Oper} {mk:List Nat} {β:Nat→Nat→Nat} {K:St Pay→Prop} {b0:Nat}:
  ∀(r:List Oper) (pre:List Oper) (σ:St Pay) (recs:List RD) (obl:Prop) (fact:Option Prop),all=pre++r→dY f nf CK PV pv xo all mk K r β pre.length (b0+mS nf pre) σ recs obl fact→
   ∃(r1 r2:List Oper) (σ':St Pay) (R:List (mV Pay)),r=r1++r2∧(∀o r',r2=o::r'→pv o=true∧PV mk (pre.length+r1.length)=true)∧(∀o∈r1,pv o=false)∧
    fA (fB f nf all b0) β (List.range' pre.length r1.length) σ=some (σ',R)∧CK ((R.map (BQ mk)).reverse++recs)=true∧obl∧(∀x∈R,x.d.obl)∧
    (pZ fact→(∀x∈R,x.d.factP)→BS f nf CK PV pv xo all mk K (pre.length+r1.length) (b0+mS nf (pre++r1)) r2 σ')
 |[],pre,σ,recs,obl,fact,_,h=>⟨[],[],σ,[],rfl,by simp,by simp,rfl,by simpa using h.1,h.2.1,by simp,fun hf _=>by
   have h3:=h.2.2;cases fact with
   |none=>exact h3
   |some p=>exact h3 hf⟩
 |o::r,pre,σ,recs,obl,fact,e,h=>by
  unfold dY at h;cases hp:pv o with
  |true=>
   rw[hp] at h;simp only at h;refine⟨[],o::r,σ,[],rfl,fun o' r' e'=>?_,by simp,rfl,by simpa using h.2.1,h.2.2.1,by simp,fun hf _=>?_⟩
   ·cases e';exact⟨hp,by simpa using h.1⟩
   ·have h3:=h.2.2.2;simp only[List.append_nil,List.length_nil,Nat.add_zero];cases fact with
    |none=>exact h3|some p=>exact h3 hf
  |false=>
  rw[hp] at h;simp only[bO] at h;obtain⟨b,l,hg,h⟩:=h;have hi:all[pre.length]?=some o:=by rw[e];simp
  have hb:=wD (nf:=nf) all b0 pre.length o pre r e rfl;have hnfs:∀(x:Oper) (pre:List Oper),mS nf (pre++[x])=mS nf pre+nf x:=by intro x pre;rw[qG];simp[mS]
  have step:∀d l',((fB f nf all b0 pre.length).m (β pre.length)).go σ []=some (d,l')→
    dY f nf CK PV pv xo all mk K r β (pre.length+1) (b0+mS nf pre+nf o) (σ.put o.dst d) ((pre.length,mk.getD pre.length 0,l',wk o.dst d.ws)::recs) (obl∧d.obl) (zM fact d.fact)→
    ∃(r1 r2:List Oper) (σ':St Pay) (R:List (mV Pay)),o::r=r1++r2∧(∀o r',r2=o::r'→pv o=true∧PV mk (pre.length+r1.length)=true)∧(∀o∈r1,pv o=false)∧
    fA (fB f nf all b0) β (List.range' pre.length r1.length) σ=some (σ',R)∧CK ((R.map (BQ mk)).reverse++recs)=true∧obl∧(∀x∈R,x.d.obl)∧
    (pZ fact→(∀x∈R,x.d.factP)→BS f nf CK PV pv xo all mk K (pre.length+r1.length) (b0+mS nf (pre++r1)) r2 σ'):=by
   intro d l' hgo hd;have hd':dY f nf CK PV pv xo all mk K r β (pre++[o]).length (b0+mS nf (pre++[o])) (σ.put o.dst d) ((pre.length,mk.getD pre.length 0,l',wk o.dst d.ws)::recs) (obl∧d.obl) (zM fact d.fact):=by rw[hnfs,List.length_append];simpa [Nat.add_assoc] using hd
   obtain⟨r1,r2,σ',R,e1,hpiv,hpv,h1,h2,h3,h4,h5⟩:=j9 r (pre++[o]) _ _ _ _ (by rw[e];simp) hd';have hdst:(fB f nf all b0 pre.length).dst=o.dst:=by simp[fB,hi,tS]
   have hl:(pre++[o]).length+r1.length=pre.length+(o::r1).length:=by simp;omega
   refine⟨o::r1,r2,σ',⟨pre.length,l',o.dst,d⟩::R,by rw[e1];rfl,by rw[←hl];exact hpiv,?_,?_,?_,h3.1,?_,?_⟩
   ·intro x hx;rcases List.mem_cons.1 hx with rfl|hx
    ·exact hp
    ·exact hpv x hx
   ·simp only[List.length_cons,List.range'_succ,fA,eQ,hgo,hdst];simp only[List.length_append,List.length_singleton] at h1;rw[h1]
   ·simpa [BQ,mV.writes] using h2
   ·intro x hx;rcases List.mem_cons.1 hx with rfl|hx
    ·exact h3.2
    ·exact h4 x hx
   ·intro hf hall;have h6:=h5 ((EU _ _).2 ⟨hf,hall _ (List.mem_cons_self ..)⟩) fun x hx=>hall x (List.mem_cons_of_mem _ hx);rw[←hl];simpa using h6
  have hm:∀x,(fB f nf all b0 pre.length).m x=(dX all o).bind fun b=>match b with|true=>f o (b0+mS nf pre) x|false=>.ret {res:=.v undef}:=by
   intro x;simp only[fB,hi,tS,hb]<;>congr 1
  cases b with
  |true=>simp only[bO] at h;obtain⟨d,l',h1,h2⟩:=h;exact step d l' (by rw[hm,pF,hg];exact h1) h2
  |false=>
   refine step {res:=.v undef} l (by rw[hm,pF,hg];rfl) ?_;have e1:zM fact none=fact:=by cases fact<;>rfl
   simpa [e1] using h
theorem ME {mk:List Nat}:∀(R:List (mV Pay)),fM ((R.map (BQ mk)).reverse)=true→xK (fun i=>mk.getD i 0) R=true:=by
 have snoc:∀(R:List (mV Pay)) (s:mV Pay),xK (fun i=>mk.getD i 0) (R++[s])=(xK (fun i=>mk.getD i 0) R&&R.all fun r=>(mk.getD s.i 0).testBit r.i||GD r s):=by
  intro R s;induction R with
  |nil=>simp[xK]|cons x R ih=>simp only[List.cons_append,xK,ih,List.all_append,List.all_cons,List.all_nil,Bool.and_true];cases (R.all fun s=>(mk.getD s.i 0).testBit x.i||GD x s)<;>cases ((mk.getD s.i 0).testBit x.i||GD x s)<;>cases xK (fun i=>mk.getD i 0) R<;>cases (R.all fun r=>(mk.getD s.i 0).testBit r.i||GD r s)<;>rfl
 intro R;induction h:R.length generalizing R with
 |zero=>intro _;have:=List.eq_nil_of_length_eq_zero h;subst this;rfl|succ n ih=>
  intro hc;rcases List.eq_nil_or_concat R with rfl|⟨R',s,rfl⟩
  ·rfl
  ·simp only[List.concat_eq_append] at h hc⊢;rw[List.map_append,List.reverse_append] at hc;simp only[List.map_cons,List.map_nil,List.reverse_singleton,List.singleton_append,fM,Bool.and_eq_true] at hc;rw[snoc,Bool.and_eq_true];refine⟨ih R' (by simpa using h) hc.2,?_⟩;have h1:=hc.1;rw[List.all_reverse,List.all_map] at h1;exact h1
theorem dE {a n i:Nat}:i∈List.range' a n↔a≤i∧i<a+n:=by simp[List.mem_range'_1]
theorem qR:∀(r r1 r2 s1 s2:List Oper),r=r1++r2→r=s1++s2→(∀o r',r2=o::r'→pv o=true)→(∀o r',s2=o::r'→pv o=true)→(∀o∈r1,pv o=false)→(∀o∈s1,pv o=false)→r1=s1∧r2=s2
 |[],r1,r2,s1,s2,e1,e2,_,_,_,_=>by have x:=List.append_eq_nil_iff.1 e1.symm;have y:=List.append_eq_nil_iff.1 e2.symm;exact⟨x.1.trans y.1.symm,x.2.trans y.2.symm⟩
 |o::r,[],r2,s1,s2,e1,e2,h1,h2,h3,h4=>by
  have hp:=h1 o r (by simpa using e1.symm);cases s1 with
  |nil=>simp at e1 e2;exact⟨rfl,by rw[←e1,←e2]⟩|cons x s1=>simp only[List.cons_append,List.cons.injEq] at e2;have:=h4 x (List.mem_cons_self ..);rw[←e2.1,hp] at this;cases this
 |o::r,y::r1,r2,s1,s2,e1,e2,h1,h2,h3,h4=>by
  simp only[List.cons_append,List.cons.injEq] at e1;obtain⟨rfl,e1⟩:=e1;have hp:=h3 o (List.mem_cons_self ..);cases s1 with
  |nil=>have:=h2 o r (by simpa using e2.symm);rw[hp] at this;cases this|cons x s1=>simp only[List.cons_append,List.cons.injEq] at e2;obtain⟨rfl,e2⟩:=e2;obtain⟨h5,h6⟩:=qR r r1 r2 s1 s2 e1 e2 h1 h2 (fun x hx=>h3 x (List.mem_cons_of_mem _ hx)) (fun x hx=>h4 x (List.mem_cons_of_mem _ hx));exact⟨by rw[h5],h6⟩
theorem sQ (hf:∀o base,eG P o (f o base)) (hCK:CK=fM) (hPV:PV=gD) {F:HProp} (hx:∀o base,pv o=true→cE P F o (xo o base)) {Q:Exit→Act→World→Prop} {ops:Array Oper} {K:St Pay→Prop} {b0:Nat}
  (hout:True) (hK:∀σ a w,K σ→cD σ F a w→Q .normal a w)
  (hlt:∀j o,ops[j]?=some o→∀i∈d9 o,i<j):
  ∀(n:Nat) (r pre:List Oper) (listed:Array Bool) (σ:St Pay) (a:Act) (w:World),r.length=n→ops.toList=pre++r→
   (∀β,dY f nf CK PV pv xo ops.toList (fN ops.toList) K r β pre.length (b0+mS nf pre) σ [] True none)→cD σ F a w→
   (∀i,i∈List.range' pre.length r.length↔(i<ops.size∧listed.getD i true=false))→listed.size=ops.size→
   (∀j,j<ops.size→listed.getD j true=true→∀i,((fN ops.toList).getD j 0).testBit i=true→i<ops.size→listed.getD i true=true)→
   wpAny P .any ops Q r.length listed a w:=by
 intro n;induction n using Nat.strongRecOn with
 |ind n ihn=>
 intro r pre listed σ a w hrn hall h hmo hT hsz hcl;have hmk:∀j o,ops[j]?=some o→∀i,((fN ops.toList).getD j 0).testBit i=true→∃p∈d9 o,p=i∨((fN ops.toList).getD p 0).testBit i=true:=by intro j o hj i hi;exact xU ops.toList j o (by simpa using hj) i hi
 have hsize:ops.size=pre.length+r.length:=by have:=congrArg List.length hall;simpa using this
 obtain⟨r1,r2,_,_,er,hpiv,hpv,_⟩:=j9 (f:=f) (nf:=nf) (CK:=CK) (PV:=PV) (pv:=pv) (xo:=xo) r pre σ [] True none hall (h (fun _ _=>0));have hrl:r.length=r1.length+r2.length:=by rw[er];simp
 have key:∀β,∃(σ':St Pay) (R:List (mV Pay)),fA (fB f nf ops.toList b0) β (List.range' pre.length r1.length) σ=some (σ',R)∧CK ((R.map (BQ (fN ops.toList))).reverse)=true∧(∀x∈R,x.d.obl)∧
   ((∀x∈R,x.d.factP)→BS f nf CK PV pv xo ops.toList (fN ops.toList) K (pre.length+r1.length) (b0+mS nf (pre++r1)) r2 σ'):=by
  intro β;obtain⟨s1,s2,σ',R,es,hpiv',hpv',h1,h2,_,h4,h5⟩:=j9 (f:=f) (nf:=nf) (CK:=CK) (PV:=PV) (pv:=pv) (xo:=xo) r pre σ [] True none hall (h β);obtain⟨rfl,rfl⟩:=qR pv r r1 r2 s1 s2 er es (fun o r' e=>(hpiv o r' e).1) (fun o r' e=>(hpiv' o r' e).1) hpv hpv';exact⟨σ',R,h1,by simpa using h2,h4,h5 trivial⟩
 have hmem2:∀i,(i∈List.range' pre.length r1.length++List.range' (pre.length+r1.length) r2.length)↔i∈List.range' pre.length r.length:=by intro i;rw[List.mem_append,dE,dE,dE,hrl];omega
 have hB:DV (fun i=>(fN ops.toList).getD i 0) (List.range' (pre.length+r1.length) r2.length):=by
  cases r2 with
  |nil=>exact trivial|cons o r2=>
   have hp:=(hpiv o r2 rfl).2;rw[hPV] at hp;simp only[gD,Bool.and_eq_true,List.all_eq_true] at hp;simp only[List.length_cons,List.range'_succ];have hml:(fN ops.toList).length=ops.size:=by obtain⟨ext,e1,e2,_⟩:=jE ops.toList [];unfold fN;rw[e1];simp[e2]
   refine⟨fun i hi=>hp.1 i (List.mem_range.2 hi),fun j hj=>hp.2 j ?_⟩;rw[dE] at hj⊢;rw[hml];simp only[List.length_cons] at hrl;omega
 have hph:=AM (P:=P) (ops:=ops) (items:=fB f nf ops.toList b0) (f:=fun i=>match ops[i]? with|some o=>f o ((r9 nf ops.toList b0).getD i 0)|none=>fun _=>.fail)
  (mk:=fun i=>(fN ops.toList).getD i 0) (K:=BS f nf CK PV pv xo ops.toList (fN ops.toList) K (pre.length+r1.length) (b0+mS nf (pre++r1)) r2) (Q:=Q) (F:=F)
  (R:=List.range' (pre.length+r1.length) r2.length) (n0:=r2.length)
  (fun i o _ hi=>by
   have:ops.toList[i]?=some o:=by simpa using hi
   simp only[fB,this,hi])
  (fun i o hi=>by simp only[hi];exact hf o _) hout hlt hmk hB ?_ r1.length listed (List.range' pre.length r1.length) σ a w ?_ ?_ hsz hcl ?_ hmo (by simp)
 ·rw[hrl,Nat.add_comm];exact hph
 ·intro listed σ a w hT' hsz' hcl' hE hmo;cases r2 with
  |nil=>
   refine⟨?_,hK σ a w hE hmo⟩;unfold Region.ready;rw[List.filter_eq_nil_iff];intro i hi;rw[List.mem_range] at hi;have:=(hT' i).2;simp only[List.length_nil,List.range'_zero,List.not_mem_nil,imp_false,not_and] at this;have h9:listed.getD i true=true:=by
    have h8:=this hi;cases hh:listed.getD i true
    ·exact absurd hh h8
    ·rfl
   rw[h9];simp
  |cons o r2=>
   have hpvo:=(hpiv o r2 rfl).1;obtain⟨p,hpdef⟩:∃p,p=pre.length+r1.length:=⟨_,rfl⟩;rw[←hpdef] at hE hT' hB;have hpo:ops[p]?=some o:=by
    have:ops.toList[p]?=some o:=by rw[hall,er,hpdef];simp
    simpa using this
   have hps:p<ops.size:=(Array.getElem?_eq_some_iff.1 hpo).1;simp only[List.length_cons,List.range'_succ] at hT' hB;have hup:listed.getD p true=false:=((hT' p).1 (List.mem_cons_self ..)).2;have hready:∀i,i∈Region.ready .any ops listed↔i=p:=by
    intro i;unfold Region.ready;rw[List.mem_filter,List.mem_range];constructor
    ·rintro⟨h1,h2⟩;rw[Bool.and_eq_true,Bool.not_eq_true'] at h2;obtain⟨h2,h3⟩:=h2;rcases List.mem_cons.1 ((hT' i).2 ⟨h1,h2⟩) with h|h
     ·exact h
     ·exfalso;cases ho:ops[i]? with
      |none=>rw[ho] at h3;simp at h3|some oi=>
       rw[ho] at h3;simp only[Option.map_some,Option.getD_some,Array.all_eq_true_iff_forall_mem] at h3;obtain⟨q,hq,h⟩:=hmk i oi ho p (hB.2 i h);obtain⟨e,he,hb,rfl⟩:=oF hq;have hp1:=h3 e he;rw[hb] at hp1;have hq2:e.on<ops.size:=by have:=hlt i oi ho _ hq;omega
       have hq3:listed.getD e.on true=true:=by
        have hs:e.on<listed.size:=by omega
        simp only[Array.getD_eq_getD_getElem?,hs,Array.getElem?_eq_getElem,Option.getD_some] at hp1⊢;simpa using hp1
       rcases h with h|h
       ·rw[h] at hq3;rw[hq3] at hup;cases hup
       ·have:=hcl' e.on hq2 hq3 p h hps;rw[this] at hup;cases hup
    ·rintro rfl;refine⟨hps,?_⟩;rw[Bool.and_eq_true,Bool.not_eq_true',hpo];refine⟨hup,?_⟩;simp only[Option.map_some,Option.getD_some,Array.all_eq_true_iff_forall_mem];intro e he;cases hb:Region.binds .any e with
     |false=>rfl|true=>
      have hlt':=hlt i _ hpo e.on (oK he hb);have hne:e.on∉i::List.range' (i+1) r2.length:=fun hm=>by
       rcases List.mem_cons.1 hm with h|h
       ·omega
       ·rw[dE] at h;omega
      have:=mt (hT' e.on).2 hne;simp only[not_and] at this;have:=this (by omega);have hs:e.on<listed.size:=by omega
      simp only[Array.getD_eq_getD_getElem?,hs,Array.getElem?_eq_getElem,Option.getD_some] at this⊢;cases hh:listed[e.on] with
       |true=>rfl|false=>exact absurd hh this
   show wpAny P .any ops Q (r2.length+1) listed a w;refine⟨fun hr=>?_,fun i hi=>?_⟩
   ·have:=(hready p).2 rfl;rw[hr] at this;cases this
   ·have hip:=(hready i).1 hi;subst hip;unfold wpOp;rw[hpo];show if Region.wanted o (yielded ops a.tmps)=true then _ else _
    simp only[BS,bO] at hE;obtain⟨b,l,hg,hE⟩:=hE;have hw:=lK hmo.1 hg;rw[hw];have hnext:∀(v:SV) (hp:List (Cel Pay)) (w':World),(∀β',dY f nf CK PV pv xo ops.toList (fN ops.toList) K r2 β' (i+1) (b0+mS nf (pre++r1)+nf o) (σ.to o.dst v hp) [] True none)→sat w' (star (big hp) F)→
      wpAny P .any ops Q r2.length (listed.setIfInBounds i true) (a.put o.dst v.den) w':=by
     intro v hp w' hd hs;have hpl:(pre++r1++[o]).length=i+1:=by simp[hpdef];omega
     have hil:i<listed.size:=by omega
     refine ihn r2.length (by rw[←hrn,hrl];simp;omega) r2 (pre++r1++[o]) _ _ _ _ rfl (by rw[hall,er];simp) ?_ (rP hmo hs) ?_ (by simp[hsz']) ?_
     ·rw[hpl,qG nf (pre++r1) [o]];have:mS nf [o]=nf o:=by simp[mS]
      rw[this,←Nat.add_assoc];exact hd
     ·intro j;rw[hpl]
      by_cases hj:j=i
      ·subst hj;constructor
       ·intro h;rw[dE] at h;omega
       ·rintro⟨_,h⟩;simp[hil] at h
      ·have h1:j∈List.range' (i+1) r2.length↔j∈i::List.range' (i+1) r2.length:=by simp[hj]
       rw[h1,hT' j];simp only[Array.getD_eq_getD_getElem?,Array.getElem?_setIfInBounds_ne (Ne.symm hj)]
     ·intro j hj hl x hx hxs
      by_cases hxi:x=i
      ·subst hxi;simp[hil]
      ·simp only[Array.getD_eq_getD_getElem?,Array.getElem?_setIfInBounds_ne (Ne.symm hxi)]
       by_cases hj':j=i
       ·subst hj';have hxn:x∉j::List.range' (j+1) r2.length:=fun hm=>by
         rcases List.mem_cons.1 hm with h|h
         ·exact hxi h
         ·rw[dE] at h;have hlm:∀(l:List Oper) (k:Nat) (hk:k<ops.size),∀y,((fN ops.toList).getD k 0).testBit y=true→y<k:=by
           intro l k;induction k using Nat.strongRecOn with
           |ind k ihk=>
            intro hk y hy;obtain⟨q,hq,h⟩:=hmk k ops[k] (by simp[hk]) y hy;have hqk:=hlt k ops[k] (by simp[hk]) q hq;rcases h with rfl|h
            ·exact hqk
            ·have:=ihk q hqk (by omega) y h;omega
          have:=hlm [] j hps x hx;omega
        have:=mt (hT' x).2 hxn;simp only[not_and] at this;have:=this hxs;simp only[Array.getD_eq_getD_getElem?] at this;cases hh:(listed[x]?.getD true) with
        |true=>rfl|false=>exact absurd hh this
       ·have hl':listed.getD j true=true:=by
         simpa only[Array.getD_eq_getD_getElem?,Array.getElem?_setIfInBounds_ne (Ne.symm hj')] using hl
        have:=hcl' j hj hl' x hx hxs;simpa [Array.getD_eq_getD_getElem?] using this
    cases b with
    |false=>simp only[Bool.false_eq_true,if_false];exact hnext (.v undef) σ.heap w hE hmo.2.2|true=>simp only[if_true];exact hx o _ hpvo σ a w _ Q _ hmo hE hout fun v hp w' hk hs=>hnext v hp w' hk hs
 ·rw[List.pairwise_append];refine⟨List.pairwise_lt_range',List.pairwise_lt_range',fun x hx y hy=>?_⟩;rw[dE] at hx hy;omega
 ·intro i;rw[hmem2];exact hT i
 ·intro β;obtain⟨σ',R,h1,h2,h4,h5⟩:=key β;exact⟨σ',R,h1,by rw[hCK] at h2;exact ME R h2,h4,h5⟩
theorem lQ (hm:P.follows .mixedOrders=true) (hf:∀o base,eG P o (f o base)) (hnd:∀o base,nd o=false→∀β β',f o base β=f o base β') (hCK:CK=fM) (hPV:PV=gD) {F:HProp} (hx:∀o base,pv o=true→cE P F o (xo o base)) (hST:ST=KV P F):
  ∀(c:Code) (σ:St Pay) (K:Ex→St Pay→Prop),dD c=true→nS f nf nd CK ST PV pv xo c σ K→KV P F c σ K:=by
 intro c;induction c with
 |skip=>intro σ K _ h Q a w hout hK hmo;exact wp_skip (hK .normal σ a w h hmo)|region id ops draw=>
  intro σ K hok h Q a w hout hK hmo;have hmo':=uR hmo (mS nf ops.toList);cases draw with
  |false=>simp only[nS] at h;exact wp_region_list (gL f nf nd pv xo hf hnd hx hout (fun σ a w h hm=>hK .normal σ a w h hm) ops.toList _ _ a w h hmo')|true=>
   simp only[nS] at h;refine wp_region_any hm ?_;have hlt:∀j o,ops[j]?=some o→∀i∈d9 o,i<j:=by intro j o hj i hi;simp only[dD,Bool.not_true,Bool.false_or,List.all_eq_true] at hok;have:=hok (o,j) (by rw[List.mem_zipIdx_iff_getElem?];simpa using hj) i hi;exact Nat.le_of_ble_eq_true this
   have:=sQ f nf CK PV pv xo hf hCK hPV hx (K:=K .normal) (Q:=Q) (b0:=σ.heap.length) hout (fun σ a w h hm=>hK .normal σ a w h hm) hlt ops.toList.length ops.toList [] (Array.replicate ops.size false) (σ.room (mS nf ops.toList)) a {w with drawn:=w.drawn+1} rfl rfl
    (by simpa [mS] using h) ⟨hmo'.1,hmo'.2.1,eU rfl hmo'.2.2⟩ ?_ (by simp) ?_
   ·simpa using this
   ·intro i;rw[dE];simp only[List.length_nil,Nat.zero_le,true_and,Nat.zero_add,Array.length_toList,Array.getD_eq_getD_getElem?];constructor
    ·intro h;simp[h]
    ·exact fun h=>h.1
   ·intro j hj hl;exfalso;simp[Array.getD_eq_getD_getElem?,hj] at hl
 |seq x y ihx ihy=>
  intro σ K hok h Q a w hout hK hmo;simp only[dD,Bool.and_eq_true] at hok;refine wp_seq (ihx σ _ hok.1 h _ a w trivial (fun e σ' a w hk hm=>?_) hmo);cases e with
  |normal=>exact ihy σ' K hok.2 hk Q a w hout hK hm|exit id=>exact hK _ σ' a w hk hm|ret=>exact hK _ σ' a w hk hm
 |cond c x y ihx ihy=>
  intro σ K hok h Q a w hout hK hmo;simp only[dD,Bool.and_eq_true] at hok;simp only[nS,bO] at h;obtain⟨v,l,hv,h⟩:=h;have e:=aK hmo (aR hv);cases v with
  |bl b=>
   cases b with
   |true=>exact wp_cond_true e (ihx σ K hok.1 h Q a w hout hK hmo)|false=>exact wp_cond_false e (ihy σ K hok.2 h Q a w hout hK hmo)
  |_=>exact h.elim
 |block id body ih=>
  intro σ K hok h Q a w hout hK hmo;refine wp_block (ih σ _ hok h _ a w trivial (fun e σ' a w hk hm=>?_) hmo);cases e with
  |normal=>exact hK _ σ' a w hk hm|ret=>exact hK _ σ' a w hk hm|exit j=>
   simp only[DD] at hk;show if j=id then _ else _
   split at hk
   ·rename_i hb;rw[if_pos (Nat.eq_of_beq_eq_true hb)];exact hK _ σ' a w hk hm
   ·rename_i hb;have hne:j≠id:=Nat.ne_of_beq_eq_false hb;rw[if_neg hne];exact hK _ σ' a w hk hm
 |exit id=>intro σ K _ h Q a w hout hK hmo;exact wp_exit (hK _ σ a w h hmo)|ret=>intro σ K _ h Q a w hout hK hmo;exact wp_ret (hK _ σ a w h hmo)|loop body ih=>intro σ K _ h;subst hST;exact h|rangeFunc f' params assign body ih1 ih2=>intro σ K _ h;subst hST;exact h|scope body ih=>intro σ K _ h;subst hST;exact h|label l=>intro σ K _ h;subst hST;exact h|goto l=>intro σ K _ h;subst hST;exact h|refuse why=>intro σ K _ h;subst hST;exact h
end
mutual
def SV.rl (g:Nat→Nat):SV→SV
 |.v x=>.v x|.lit k n=>.lit k n|.i k n=>.i k n|.bl b=>.bl b|.hv h x=>.hv (g h) x|.ptr h b off=>.ptr (g h) b off|.agg cs=>.agg (SV.rls g cs)|.tup vs=>.tup (SV.rls g vs)|.ifc t x=>.ifc t (x.rl g)|.fn f first cap=>.fn f (SV.rls g first) (SV.rls g cap)
 |.sl h nn b off n cap=>.sl (g h) nn b off n cap|.el h b off j=>.el (g h) b off j
def SV.rls (g:Nat→Nat):List SV→List SV
 |[]=>[]|x::r=>x.rl g::SV.rls g r
end
mutual
theorem SV.den_rl (g:Nat→Nat):∀x:SV,(x.rl g).den=x.den
 |.v x=>rfl|.lit k n=>rfl|.i k n=>rfl|.bl b=>rfl|.hv h x=>rfl|.ptr h b off=>rfl|.agg cs=>by simp[SV.rl,SV.den,SV.dens_rls g cs]
 |.tup vs=>by simp[SV.rl,SV.den,SV.dens_rls g vs]
 |.ifc t x=>by simp[SV.rl,SV.den,SV.den_rl g x]
 |.fn f first cap=>by simp[SV.rl,SV.den,SV.dens_rls g first,SV.dens_rls g cap]
 |.sl _ _ _ _ _ _=>rfl|.el _ _ _ _=>rfl
theorem SV.dens_rls (g:Nat→Nat):∀l:List SV,SV.dens (SV.rls g l)=SV.dens l
 |[]=>rfl|x::r=>by simp[SV.rls,SV.dens,SV.den_rl g x,SV.dens_rls g r]
end
section
variable {Pay:Type} [PayDen Pay] {P:Program}
def Cel.rl (g:Nat→Nat):Cel Pay→Cel Pay
 |.raw own b T cs=>.raw own b T (SV.rls g cs)|c=>c
def W.rl (g:Nat→Nat):W Pay→W Pay
 |.cel p c=>.cel (g p) (c.rl g)|.fld p off x=>.fld (g p) off (x.rl g)
inductive Same:Cel Pay→Cel Pay→Prop where
 |refl (c:Cel Pay):Same c c|raw {own:Bool} {b:Nat} {T:TypeId} {cs ds:List SV} (h:SV.dens cs=SV.dens ds):Same (.raw own b T cs) (.raw own b T ds)
def sB:Cel Pay→Cel Pay→Prop
 |.raw o b T cs,.raw o' b' T' ds=>o=o'∧b=b'∧T=T'∧SV.dens cs=SV.dens ds|.prd p,.prd q=>p=q|.nil,.nil=>True|.free,.free=>True|_,_=>False
theorem lN {c d:Cel Pay} (h:sB c d):Same c d:=by
 cases c<;>cases d<;>simp only[sB] at h
 ·exact .refl _
 ·exact .refl _
 ·obtain⟨rfl,rfl,rfl,h⟩:=h;exact .raw h
 ·subst h;exact .refl _
def jS:List (Cel Pay)→List (Cel Pay)→Prop
 |[],[]=>True|c::r,d::s=>sB c d∧jS r s|_,_=>False
def l6 (l m:List SV):Prop:=SV.dens l=SV.dens m
theorem Same.den {c d:Cel Pay} (h:Same c d):c.den=d.den:=by
 cases h with
 |refl=>rfl|raw h=>have hl:=congrArg List.length h;simp only[bD] at hl;simp[Cel.den,h,hl]
theorem Same.symm {c d:Cel Pay} (h:Same c d):Same d c:=by
 cases h with
 |refl=>exact .refl _|raw h=>exact .raw h.symm
theorem Same.trans {c d e:Cel Pay} (h:Same c d) (h':Same d e):Same c e:=by
 cases h with
 |refl=>exact h'|raw h=>cases h' with
  |refl=>exact .raw h|raw h'=>exact .raw (h.trans h')
theorem Same.rl (g:Nat→Nat) (c:Cel Pay):Same (c.rl g) c:=by
 cases c with
 |raw own b T cs=>exact .raw (SV.dens_rls g cs)|_=>exact .refl _
theorem Same.setF {c d:Cel Pay} (h:Same c d) (off:Nat) (x y:SV) (hxy:x.den=y.den):Same (c.setF off x) (d.setF off y):=by
 cases h with
 |refl=>
  cases c with
  |raw own b T cs=>exact .raw (by simp[cH,List.map_set,hxy])|_=>exact .refl _
 |raw h=>exact .raw (by simp only[cH,List.map_set,hxy] at h⊢;rw[h])
def dF (ps:List Nat) (L:List (Cel Pay)):List (Cel Pay):=ps.foldl (fun L p=>L.set p .nil) L
def cZ (L:List (Cel Pay)):List Nat→HProp
 |[]=>emp|p::ps=>star ((L.getD p .nil).den) (cZ L ps)
theorem mC {L L':List (Cel Pay)}:∀ps:List Nat,(∀p∈ps,L.getD p .nil=L'.getD p .nil)→cZ L ps=cZ L' ps
 |[],_=>rfl|p::ps,h=>by simp only[cZ];rw[h p (List.mem_cons_self ..),mC ps fun q hq=>h q (List.mem_cons_of_mem _ hq)]
theorem gP {L:List (Cel Pay)} {p q:Nat} (h:p≠q) (c:Cel Pay):(L.set p c).getD q .nil=L.getD q .nil:=by simp[List.getD_eq_getElem?_getD,List.getElem?_set_ne h]
theorem kP:∀(ps:List Nat) (L:List (Cel Pay)),ps.Nodup→big L=star (cZ L ps) (big (dF ps L))
 |[],L,_=>by simp[cZ,dF,aH]
 |p::ps,L,h=>by have hn:=List.nodup_cons.1 h;rw[bV L p,kP ps (L.set p .nil) hn.2];simp only[cZ,aA];rw[mC ps (L:=L) (L':=L.set p .nil) fun q hq=>(gP (fun e=>hn.1 (by rw[e];exact hq)) _).symm];rfl
theorem nV:∀(ps:List Nat) (L:List (Cel Pay)) (f:Cel Pay→Cel Pay) (p:Nat),p∈ps→dF ps (bW f p L)=dF ps L
 |[],L,f,p,h=>by cases h
 |q::ps,L,f,p,h=>by
  show dF ps ((bW f p L).set q .nil)=dF ps (L.set q .nil)
  by_cases e:q=p
  ·subst e;rw[bP,bP];congr 1;clear h;induction L generalizing q with
   |nil=>simp[bW]|cons c r ih=>cases q with
    |zero=>simp[bW]|succ q=>simp only[bW];rw[ih]
  ·rw[bP,eZ _ _ _ _ _ (.inl e),←bP];exact nV ps _ f p ((List.mem_cons.1 h).resolve_left (Ne.symm e))
def oQ (pos:Nat→Nat) (n:Nat) (H L:List (Cel Pay)):Prop:=
 H.length=n∧(∀p,p<n→pos p<L.length∧Same (L.getD (pos p) .nil) (H.getD p .nil))∧∀p q,p<n→q<n→pos p=pos q→p=q
theorem oQ.big_eq {pos:Nat→Nat} {n:Nat} {H L:List (Cel Pay)} (h:oQ pos n H L):big L=star (big H) (big (dF ((List.range n).map pos) L)):=by
 obtain⟨h1,h2,h3⟩:=h;have nd:((List.range n).map pos).Nodup:=by
  unfold List.Nodup;rw[List.pairwise_map]
  exact List.Pairwise.imp_of_mem (fun ha hb hlt e=>by
   have:=h3 _ _ (List.mem_range.1 ha) (List.mem_range.1 hb) e
   omega) List.pairwise_lt_range
 rw[kP _ L nd];congr 1;have key:∀(m k:Nat),k+m=n→cZ L ((List.range' k m).map pos)=big (H.drop k):=by
  intro m;induction m with
  |zero=>intro k hk;simp[cZ];rw[List.drop_eq_nil_of_le (by omega)];rfl|succ m ih=>
   intro k hk;have hlt:k<H.length:=by omega
   rw[List.range'_succ,List.map_cons,cZ,ih (k+1) (by omega)];rw[List.drop_eq_getElem_cons hlt,big];congr 1;rw[(h2 k (by omega)).2.den];simp[List.getD_eq_getElem?_getD,hlt]
 have:=key n 0 (by omega);rw[←List.range_eq_range'] at this;simpa using this
theorem oQ.put {pos:Nat→Nat} {n:Nat} {H L:List (Cel Pay)} (h:oQ pos n H L) (x:W Pay) (hx:(match x with|.cel p _=>p|.fld p _ _=>p)<n):
  oQ pos n (x.put H) ((x.rl pos).put L)∧dF ((List.range n).map pos) ((x.rl pos).put L)=dF ((List.range n).map pos) L:=by
 obtain⟨h1,h2,h3⟩:=h;have gen:∀(p:Nat) (f g:Cel Pay→Cel Pay),p<n→(∀c d,Same c d→Same (f c) (g d))→oQ pos n (bW g p H) (bW f (pos p) L):=by
  intro p f g hp hfg;refine⟨by rw[eJ];exact h1,fun q hq=>?_,h3⟩;rw[eJ];refine⟨(h2 q hq).1,?_⟩
  by_cases e:q=p
  ·subst e;rw[cM _ _ _ _ (h2 q hq).1,cM _ _ _ _ (by omega)];exact hfg _ _ (h2 q hq).2
  ·rw[dB _ _ _ _ _ (fun e'=>e (h3 _ _ hq hp e'.symm)),dB _ _ _ _ _ (Ne.symm e)];exact(h2 q hq).2
 cases x with
 |cel p c=>simp only at hx;simp only[W.put,W.rl,bP];exact⟨gen p _ _ hx (fun _ _ _=>Same.rl pos c),nV _ _ _ _ (List.mem_map.2 ⟨p,List.mem_range.2 hx,rfl⟩)⟩|fld p off y=>simp only at hx;simp only[W.put,W.rl];exact⟨gen p _ _ hx (fun c d h=>h.setF off _ _ (SV.den_rl pos y)),nV _ _ _ _ (List.mem_map.2 ⟨p,List.mem_range.2 hx,rfl⟩)⟩
def W.pos:W Pay→Nat
 |.cel p _=>p|.fld p _ _=>p
theorem oQ.puts {pos:Nat→Nat} {n:Nat}:∀(ws:List (W Pay)) {H L:List (Cel Pay)},oQ pos n H L→(∀x∈ws,x.pos<n)→
  oQ pos n (puts ws H) (Sx.puts (ws.map (W.rl pos)) L)∧dF ((List.range n).map pos) (Sx.puts (ws.map (W.rl pos)) L)=dF ((List.range n).map pos) L
 |[],H,L,h,_=>⟨h,rfl⟩|x::ws,H,L,h,hx=>by have ⟨h1,h2⟩:=h.put x (by have:=hx x (List.mem_cons_self ..);cases x<;>exact this);have ⟨h3,h4⟩:=oQ.puts ws h1 fun y hy=>hx y (List.mem_cons_of_mem _ hy);exact⟨h3,h4.trans h2⟩
structure cJ (Pay:Type) where
 X:Type
 args:X→List SV
 pre:X→List (Cel Pay)
 obl:X→Prop:=fun _=>True
 nf:Nat:=0
 res:X→(Nat→Nat)→SV
 ws:X→(Nat→Nat)→List (W Pay):=fun _ _=>[]
 fact:X→(Nat→Nat)→Option Prop:=fun _ _=>none
def cJ.post (c:cJ Pay) (x:c.X) (β:Nat→Nat):List (Cel Pay):=puts (c.ws x β) (c.pre x++List.replicate c.nf .free)
def cJ.ok (P:Program) (f:FuncId) (c:cJ Pay):Prop:=
 ∀(x:c.X) (F:HProp) (w:World),c.obl x→sat w (star (big (c.pre x)) F)→
  Calls P f (SV.dens (c.args x)).toArray w fun e w'=>False∨∃β,pZ (c.fact x β)∧e=.returned (c.res x β).den∧sat w' (star (big (c.post x β)) F)
def CallOK (P:Program) (f:FuncId) (app:List SV→Nat→(Nat→Nat)→SM Pay (Delta Pay)):Prop:=
 ∀(args:List SV) (base:Nat) (σ:St Pay) (F:HProp) (w:World),sat w (star (big σ.heap) F)→(∀β,∃d,(app args base β).val σ=some d∧d.obl)→
  Calls P f (SV.dens args).toArray w fun e w'=>False∨∃β d,(app args base β).val σ=some d∧d.factP∧e=.returned d.res.den∧sat w' (star (big (puts d.ws σ.heap)) F)
def vF:List Nat→SM Pay (List (Cel Pay))
 |[]=>.ret []|p::ps=>.rdC p fun c=>match c with
  |.nil=>.fail|c=>(vF ps).bind fun cs=>.ret (c::cs)
def sY:Nat→Nat→SM Pay Unit
 |_,0=>.ret ()|p,n+1=>.rdC p fun c=>match c with
  |.free=>sY (p+1) n|_=>.fail
def iX (th:List Nat) (base:Nat) (p:Nat):Nat:=match th[p]? with
 |some q=>q|none=>base+(p-th.length)
def gK:List Nat→Bool
 |[]=>true|p::ps=>(ps.all fun q=>!Nat.beq p q)&&gK ps
def sT (th:List Nat) (base:Nat):Bool:=gK th&&th.all fun p=>Nat.blt p base
def vD:Nat→List (W Pay)→Bool
 |_,[]=>true|n,.cel p _::r=>Nat.blt p n&&vD n r|n,.fld p _ _::r=>Nat.blt p n&&vD n r
def cJ.app (c:cJ Pay) (m:List SV→SM Pay (c.X×List Nat)) (args:List SV) (base:Nat) (β:Nat→Nat):SM Pay (Delta Pay):=
 (m args).bind fun y=>match sT y.2 base with
  |false=>.fail|true=>(vF y.2).bind fun cs=>(sY base c.nf).bind fun _=>match vD (y.2.length+c.nf) (c.ws y.1 β) with
   |false=>.fail|true=>.ret {res:=(c.res y.1 β).rl (iX y.2 base),ws:=(c.ws y.1 β).map (W.rl (iX y.2 base)),obl:=c.obl y.1∧l6 args (c.args y.1)∧jS cs (c.pre y.1),fact:=c.fact y.1 β}
theorem jG {L:List (Cel Pay)} {p:Nat} (h:L.getD p .nil≠.nil):p<L.length:=by
 rcases Nat.lt_or_ge p L.length with h'|h'
 ·exact h'
 ·rw[List.getD_eq_getElem?_getD,List.getElem?_eq_none h'] at h;simp at h
theorem pR {σ:St Pay}:∀{ps:List Nat} {cs:List (Cel Pay)},(vF ps).val σ=some cs→(cs=ps.map fun p=>σ.heap.getD p .nil)∧∀p∈ps,p<σ.heap.length
 |[],cs,h=>by simp only[vF,aC,Option.some.injEq] at h;subst h;exact⟨rfl,fun p hp=>by cases hp⟩
 |p::ps,cs,h=>by
  simp only[vF,aQ] at h;split at h
  ·simp at h
  ·rename_i hne;simp only[aE,Option.bind_eq_some_iff] at h;obtain⟨ds,h1,h2⟩:=h;simp only[aC,Option.some.injEq] at h2;subst h2;obtain⟨e,hl⟩:=pR h1;refine⟨by rw[e];rfl,fun q hq=>?_⟩;rcases List.mem_cons.1 hq with rfl|hq
   ·exact jG hne
   ·exact hl q hq
theorem oB {σ:St Pay}:∀{n p:Nat} {u:Unit},(sY p n).val σ=some u→∀j,j<n→σ.heap.getD (p+j) .nil=.free
 |0,p,u,h,j,hj=>by omega
 |n+1,p,u,h,j,hj=>by
  simp only[sY,aQ] at h;split at h
  ·rename_i hc;cases j with
   |zero=>exact hc|succ j=>have:=oB h j (by omega);rw[show p+(j+1)=p+1+j by omega];exact this
  ·simp at h
theorem gM:∀{l:List Nat},gK l=true→l.Nodup
 |[],_=>List.nodup_nil|p::ps,h=>by simp only[gK,Bool.and_eq_true,List.all_eq_true] at h;rw[List.nodup_cons];refine⟨fun hp=>?_,gM h.2⟩;have:=h.1 p hp;simp at this
theorem nF:∀{n:Nat} {ws:List (W Pay)},vD n ws=true→∀x∈ws,x.pos<n
 |n,[],_,x,hx=>by cases hx
 |n,.cel p c::r,h,x,hx=>by
  simp only[vD,Bool.and_eq_true] at h;rcases List.mem_cons.1 hx with rfl|hx
  ·exact Nat.le_of_ble_eq_true h.1
  ·exact nF h.2 x hx
 |n,.fld p _ _::r,h,x,hx=>by
  simp only[vD,Bool.and_eq_true] at h;rcases List.mem_cons.1 hx with rfl|hx
  ·exact Nat.le_of_ble_eq_true h.1
  ·exact nF h.2 x hx
theorem jS.get:∀{c d:List (Cel Pay)},jS c d→c.length=d.length∧∀i,Same (c.getD i .nil) (d.getD i .nil)
 |[],[],_=>⟨rfl,fun i=>.refl _⟩|c::r,d::s,⟨h,t⟩=>by
  have ih:=jS.get t;refine⟨by simp[ih.1],fun i=>?_⟩;cases i with
  |zero=>exact lN h|succ i=>simpa using ih.2 i
 |[],d::s,h=>h.elim|c::r,[],h=>h.elim
theorem iM {L:List (Cel Pay)} {p:Nat} (h:L.getD p .nil=.free):p<L.length:=by
 rcases Nat.lt_or_ge p L.length with h'|h'
 ·exact h'
 ·rw[List.getD_eq_getElem?_getD,List.getElem?_eq_none h'] at h;simp at h
theorem cJ.app_ok {f:FuncId} {c:cJ Pay} (hc:c.ok P f) (m:List SV→SM Pay (c.X×List Nat)):CallOK P f (c.app m):=by
 intro args base σ F w hs hv;have key:∃y,(m args).val σ=some y∧sT y.2 base=true∧(∀p∈y.2,p<σ.heap.length)∧(∀j,j<c.nf→σ.heap.getD (base+j) .nil=.free)∧l6 args (c.args y.1)∧c.obl y.1∧jS (y.2.map fun p=>σ.heap.getD p .nil) (c.pre y.1)∧
   ∀β,(c.app m args base β).val σ=some {res:=(c.res y.1 β).rl (iX y.2 base),ws:=(c.ws y.1 β).map (W.rl (iX y.2 base)),obl:=c.obl y.1∧l6 args (c.args y.1)∧jS (y.2.map fun p=>σ.heap.getD p .nil) (c.pre y.1),fact:=c.fact y.1 β}∧vD (y.2.length+c.nf) (c.ws y.1 β)=true:=by
  have one:∀β,∃y,(m args).val σ=some y∧sT y.2 base=true∧(∀p∈y.2,p<σ.heap.length)∧(∀j,j<c.nf→σ.heap.getD (base+j) .nil=.free)∧l6 args (c.args y.1)∧c.obl y.1∧jS (y.2.map fun p=>σ.heap.getD p .nil) (c.pre y.1)∧
    (c.app m args base β).val σ=some {res:=(c.res y.1 β).rl (iX y.2 base),ws:=(c.ws y.1 β).map (W.rl (iX y.2 base)),obl:=c.obl y.1∧l6 args (c.args y.1)∧jS (y.2.map fun p=>σ.heap.getD p .nil) (c.pre y.1),fact:=c.fact y.1 β}∧vD (y.2.length+c.nf) (c.ws y.1 β)=true:=by
   intro β;obtain⟨d,h1,h2⟩:=hv β;have h1':=h1;simp only[cJ.app,aE,Option.bind_eq_some_iff] at h1;obtain⟨y,hy,h1⟩:=h1;split at h1
   ·simp at h1
   ·rename_i hap;simp only[aE,Option.bind_eq_some_iff] at h1;obtain⟨cs,hcs,u,hu,h1⟩:=h1;split at h1
    ·simp at h1
    ·rename_i hw;simp only[aC,Option.some.injEq] at h1;obtain⟨ecs,hzl⟩:=pR hcs;subst ecs;subst h1;exact⟨y,hy,hap,hzl,oB hu,h2.2.1,h2.1,h2.2.2,h1',hw⟩
  obtain⟨y,hy,a1,a0,a2,a3,a4,a5,_,_⟩:=one (fun _=>0);refine⟨y,hy,a1,a0,a2,a3,a4,a5,fun β=>?_⟩;obtain⟨y',hy',_,_,_,_,_,_,b1,b2⟩:=one β;rw[hy] at hy';cases hy';exact⟨b1,b2⟩
 obtain⟨⟨x,th⟩,hy,hap,hzl,hfree,hargs,hobl,hsame,happ⟩:=key;simp only at*;rw[sT,Bool.and_eq_true] at hap;have nd:=gM hap.1;have hlt:∀p∈th,p<base:=by intro p hp;have:=List.all_eq_true.1 hap.2 p hp;exact Nat.le_of_ble_eq_true this
 have hget:=hsame.get;simp only[List.length_map] at hget;have hpos1:∀p,p<th.length→iX th base p=th.getD p 0:=by intro p hp;simp[iX,List.getD_eq_getElem?_getD,hp]
 have hpos2:∀p,th.length≤p→iX th base p=base+(p-th.length):=by intro p hp;simp[iX,List.getElem?_eq_none hp]
 have hmem:∀p,p<th.length→th.getD p 0∈th:=by intro p hp;simp only[List.getD_eq_getElem?_getD,List.getElem?_eq_getElem hp,Option.getD_some];exact List.getElem_mem _
 have hlen:∀p,p<th.length→σ.heap.getD (th.getD p 0) .nil=(th.map fun p=>σ.heap.getD p .nil).getD p .nil:=by intro p hp;simp[List.getD_eq_getElem?_getD,hp]
 have hz:∀p,p<th.length→th.getD p 0<σ.heap.length:=fun p hp=>hzl _ (hmem p hp);have hlies:oQ (iX th base) (th.length+c.nf) (c.pre x++List.replicate c.nf .free) σ.heap:=by
  refine⟨by simp[hget.1],fun q hq=>?_,fun a b ha hb e=>?_⟩
  ·by_cases hqt:q<th.length
   ·rw[hpos1 q hqt];refine⟨hz q hqt,?_⟩;have:=hget.2 q;rw[hlen q hqt];have e2:(c.pre x++List.replicate c.nf (.free:Cel Pay)).getD q .nil=(c.pre x).getD q .nil:=by
     simp[List.getD_eq_getElem?_getD,List.getElem?_append,←hget.1,hqt]
    rw[e2];exact this
   ·rw[hpos2 q (by omega)];have hf:=hfree (q-th.length) (by omega);refine⟨iM hf,?_⟩;rw[hf];have e2:(c.pre x++List.replicate c.nf (.free:Cel Pay)).getD q .nil=.free:=by
     simp only[List.getD_eq_getElem?_getD,List.getElem?_append,←hget.1,hqt,if_false];rw[List.getElem?_replicate,if_pos (by omega)];rfl
    rw[e2];exact .refl _
  ·by_cases ha':a<th.length<;>by_cases hb':b<th.length
   ·rw[hpos1 a ha',hpos1 b hb'] at e;simp only[List.getD_eq_getElem?_getD,List.getElem?_eq_getElem ha',List.getElem?_eq_getElem hb',Option.getD_some] at e;exact(List.getElem_inj nd).1 e
   ·rw[hpos1 a ha',hpos2 b (by omega)] at e;have:=hlt _ (hmem a ha');omega
   ·rw[hpos2 a (by omega),hpos1 b hb'] at e;have:=hlt _ (hmem b hb');omega
   ·rw[hpos2 a (by omega),hpos2 b (by omega)] at e;omega
 rw[hlies.big_eq] at hs;simp only[bF,sE,aO,aA] at hs;have hcall:=hc x (star (big (dF ((List.range (th.length+c.nf)).map (iX th base)) σ.heap)) F) w hobl hs;unfold l6 at hargs;rw[hargs];refine hcall.mono fun e w' hR=>?_;rcases hR with hF|⟨β,hfact,rfl,hsat⟩
 ·exact hF.elim
 ·right;refine⟨β,_,(happ β).1,hfact,by rw[SV.den_rl],?_⟩;obtain⟨l1,l2⟩:=oQ.puts (c.ws x β) hlies (nF (happ β).2);rw[←aA,cJ.post,←l2,←l1.big_eq] at hsat;exact hsat
structure gV (P:Program) (Pay:Type) [PayDen Pay] where
 f:FuncId
 nf:Nat
 nd:Bool
 app:List SV→Nat→(Nat→Nat)→SM Pay (Delta Pay)
 ok:CallOK P f app
 same:nd=false→∀args base β β',app args base β=app args base β'
def cN (f:FuncId):List (gV P Pay)→Option (gV P Pay)
 |[]=>none|r::rs=>match Nat.beq r.f f with
  |true=>some r|false=>cN f rs
theorem iJ {f:FuncId}:∀{rs:List (gV P Pay)} {r:gV P Pay},cN f rs=some r→r.f=f
 |[],r,h=>by cases h
 |s::rs,r,h=>by
  simp only[cN] at h;split at h
  ·rename_i hb;cases h;exact Nat.eq_of_beq_eq_true hb
  ·exact iJ h
def pM:Operand→Option FuncId
 |.func f=>some f|_=>none
def jM (rs:List (gV P Pay)) (base:Nat) (c:Call) (β:Nat→Nat):SM Pay (Delta Pay):=match c.callee with
 |.value f=>(ev f).bind fun v=>match v with
  |.fn (.func n) first cap=>(E1 c.args.toList).bind fun as=>match cN n rs with
   |some r=>r.app (first++as++cap) base β|none=>.fail
  |_=>.fail
 |_=>.fail
theorem zO (rs:List (gV P Pay)) (hfn:∀r:gV P Pay,r∈rs→∃fn,P.funcs[r.f]?=some fn∧fn.body.isSome=true∧fn.name≠ "runtime.NumGoroutine")
  (o:Oper) (base:Nat) (c:Call) (ho:o.op=.call c):bT P o (jM rs base c:(Nat→Nat)→SM Pay (Delta Pay)):=by
 intro σ F a w next Q hm hv hout hk
 obtain⟨d0,hv0,_⟩:=hv (fun _=>0);obtain⟨callee,args,argTypes⟩:=c;cases callee with
 |value f=>
  simp only[jM,aE,Option.bind_eq_some_iff] at hv0;obtain⟨v,h1,h2⟩:=hv0;have e:=aK hm h1;split at h2
  ·rename_i n first cap
   simp only[aE,Option.bind_eq_some_iff] at h2;obtain⟨as,h3,h4⟩:=h2;have e2:=gH hm h3;split at h4
   ·rename_i r hr;have hrf:=iJ hr;have hmem:r∈rs:=by
     have:∀(rs:List (gV P Pay)),cN n rs=some r→r∈rs:=by
      intro rs;induction rs with
      |nil=>intro h;cases h|cons s rs ih=>
       intro h;simp only[cN] at h;split at h
       ·cases h;exact List.mem_cons_self ..
       ·exact List.mem_cons_of_mem _ (ih h)
     exact this rs hr
    obtain⟨fn,hf1,hf2,hf3⟩:=hfn r hmem;rw[hrf] at hf1;have happ:∀β,(jM rs base ⟨.value f,args,argTypes⟩ β:SM Pay (Delta Pay)).val σ=(r.app (first++as++cap) base β).val σ:=by intro β;simp only[jM,aE,h1,Option.bind_some,h3,hr]
    have hcall:=r.ok (first++as++cap) base σ F w hm.2.2 (fun β=>by
     obtain⟨d,hd,ho⟩:=hv β
     rw[happ] at hd;exact⟨d,hd,ho⟩)
    left;unfold Oper.wp;have hargs:(args.map a.eval)=(SV.dens as).toArray:=by apply Array.ext';simp[e2]
    have hrun:(execOp a.eval o).run P w=.ok (.enter n (SV.dens (first++as++cap)).toArray) w:=by
     obtain⟨body,hb⟩:=Option.isSome_iff_exists.1 hf2;simp only[execOp,ho,resolve,hargs,e,SV.den,Deferred.ofValue];simp only[Sem.run_bind,Sem.run_pure,Result.andThen_ok,invoke,callFunc,run_program,hf1];have hf3':(fn.name== "runtime.NumGoroutine")=false:=by simpa using hf3
     simp only[hf3',Bool.false_eq_true,if_false,hb,Option.isNone_some,Sem.run_pure];congr 2;simp[cH]
    rw[hrun];simp only[Oper.upon];rw[hrf] at hcall;refine hcall.mono fun e w' hR=>?_;rcases hR with hF|⟨β,d,hd,hfact,rfl,hsat⟩
    ·exact hF.elim
    ·exact hk β d w' (by rw[happ];exact hd) hfact hsat
   ·simp at h4
  ·simp at h2
 |invoke recv m=>simp[jM] at hv0|builtin b=>simp[jM] at hv0
end
section
variable {Pay:Type} [PayDen Pay] {P:Program}
variable (TT:TypeId→Option TyI) (AR:lT→IntKind→Int→Int→Int) (CM:mU→Int→Int→Bool) (SE:ByteArray→ByteArray→Bool)
def fS (src dst:TypeId) (x:Operand):SM Pay (Delta Pay):=match TT src with
 |some _=>xM TT AR dst x|none=>.fail
def cV (base:Nat) (o:Oper) (β:Nat→Nat):SM Pay (Delta Pay):=match o.op with
 |.move x=>iI x|.assign x=>iI x|.pick c x y=>tM c x y|.nilCheck x=>iQ x|.binOp op t x y _=>pK TT AR CM SE op t x y|.unOp op _ x=>JW AR op x|.convert s d x=>fS TT AR s d x|.makeInterface t x=>pD TT t x|.makeFunc fn first cap=>tL fn first cap
 |.extract x n=>kS x n|.fieldAddr s x f=>dZ TT s x f|.field t x f=>lU TT t x f|.load t x=>lM TT t x|.store t p x=>kK TT t p x|.box t x=>yC base t x β|.alloc t=>pH TT base t β|.build t ps=>mN TT t ps|.buildSlice t n ps=>fT TT base t n ps β|.indexAddr t x i=>d7 TT t x i|_=>.fail
structure sU (P:Program) (TT:TypeId→Option TyI):Prop where
 ok:∀t gs,(TT t).isSome=true→P.underlying t=some (.struct gs)→∀f∈gs.toList,(P.info? f.type).isSome=true∧(P.underlying f.type).isSome=true
theorem bT.fail (o:Oper):bT P o fun _=>(.fail:SM Pay (Delta Pay)):=by
 intro σ F a w next Q _ h
 obtain⟨d,e,_⟩:=h (fun _=>0);cases e
theorem J8 (hS:Std P TT AR CM SE) (hF:sU P TT) (base:Nat) (o:Oper):bT P o (cV TT AR CM SE base o:(Nat→Nat)→SM Pay (Delta Pay)):=by
 cases h:o.op
 all_goals (first
  |(have e:(cV TT AR CM SE base o:(Nat→Nat)→SM Pay (Delta Pay))=fun _=>.fail:=by funext β;simp only[cV,h]
    rw[e];exact bT.fail o)
  |skip)
 case move x=>
  have e:(cV TT AR CM SE base o:(Nat→Nat)→SM Pay (Delta Pay))=fun _=>iI x:=by funext β;simp only[cV,h]
  rw[e];exact rS o x (.inl h)
 case assign x=>
  have e:(cV TT AR CM SE base o:(Nat→Nat)→SM Pay (Delta Pay))=fun _=>iI x:=by funext β;simp only[cV,h]
  rw[e];exact rS o x (.inr h)
 case pick c x y=>
  have e:(cV TT AR CM SE base o:(Nat→Nat)→SM Pay (Delta Pay))=fun _=>tM c x y:=by funext β;simp only[cV,h]
  rw[e];exact zJ o c x y h
 case nilCheck x=>
  have e:(cV TT AR CM SE base o:(Nat→Nat)→SM Pay (Delta Pay))=fun _=>iQ x:=by funext β;simp only[cV,h]
  rw[e];exact rL o x h
 case binOp op t x y yt=>
  have e:(cV TT AR CM SE base o:(Nat→Nat)→SM Pay (Delta Pay))=fun _=>pK TT AR CM SE op t x y:=by funext β;simp only[cV,h]
  rw[e];exact uL TT AR CM SE hS o op t x y yt h
 case unOp op t x=>
  have e:(cV TT AR CM SE base o:(Nat→Nat)→SM Pay (Delta Pay))=fun _=>JW AR op x:=by funext β;simp only[cV,h]
  rw[e];exact HV TT AR CM SE hS o op t x h
 case convert s d x=>
  have e:(cV TT AR CM SE base o:(Nat→Nat)→SM Pay (Delta Pay))=fun _=>fS TT AR s d x:=by funext β;simp only[cV,h]
  rw[e];cases ht:TT s with
  |none=>simp only[fS,ht];exact bT.fail o|some i=>simp only[fS,ht];exact sO TT AR CM SE hS o s d x h ⟨i,ht⟩
 case makeInterface t x=>
  have e:(cV TT AR CM SE base o:(Nat→Nat)→SM Pay (Delta Pay))=fun _=>pD TT t x:=by funext β;simp only[cV,h]
  rw[e];exact wR TT AR CM SE hS o t x h
 case makeFunc fn first cap=>
  have e:(cV TT AR CM SE base o:(Nat→Nat)→SM Pay (Delta Pay))=fun _=>tL fn first cap:=by funext β;simp only[cV,h]
  rw[e];exact A3 o fn first cap h
 case extract x n=>
  have e:(cV TT AR CM SE base o:(Nat→Nat)→SM Pay (Delta Pay))=fun _=>kS x n:=by funext β;simp only[cV,h]
  rw[e];exact tN o x n h
 case fieldAddr s x f=>
  have e:(cV TT AR CM SE base o:(Nat→Nat)→SM Pay (Delta Pay))=fun _=>dZ TT s x f:=by funext β;simp only[cV,h]
  rw[e];exact kB TT AR CM SE hS o s x f h
 case field t x f=>
  have e:(cV TT AR CM SE base o:(Nat→Nat)→SM Pay (Delta Pay))=fun _=>lU TT t x f:=by funext β;simp only[cV,h]
  rw[e];cases ht:TT t with
  |none=>
   intro σ F a w next Q _ hv
   obtain⟨d,e,_⟩:=hv (fun _=>0);simp only[lU,aE,ht,Option.bind_eq_some_iff] at e;obtain⟨_,_,e⟩:=e;simp at e
  |some i=>exact xD TT AR CM SE hS o t x f h (fun gs=>hF.ok t gs (by rw[ht];rfl))
 case load t x=>
  have e:(cV TT AR CM SE base o:(Nat→Nat)→SM Pay (Delta Pay))=fun _=>lM TT t x:=by funext β;simp only[cV,h]
  rw[e];exact nG TT AR CM SE hS o t x h
 case store t p x=>
  have e:(cV TT AR CM SE base o:(Nat→Nat)→SM Pay (Delta Pay))=fun _=>kK TT t p x:=by funext β;simp only[cV,h]
  rw[e];exact qF TT AR CM SE hS o t p x h
 case box t x=>
  have e:(cV TT AR CM SE base o:(Nat→Nat)→SM Pay (Delta Pay))=yC base t x:=by funext β;simp only[cV,h]
  rw[e];exact B9 o base t x h
 case alloc t=>
  have e:(cV TT AR CM SE base o:(Nat→Nat)→SM Pay (Delta Pay))=pH TT base t:=by funext β;simp only[cV,h]
  rw[e];exact wF TT AR CM SE hS o base t h
 case build t ps=>
  have e:(cV TT AR CM SE base o:(Nat→Nat)→SM Pay (Delta Pay))=fun _=>mN TT t ps:=by funext β;simp only[cV,h]
  rw[e];cases ht:TT t with
  |none=>
   intro σ F a w next Q _ hv
   obtain⟨d,e,_⟩:=hv (fun _=>0);simp only[mN,aE,ht,Option.bind_eq_some_iff] at e;obtain⟨_,_,e⟩:=e;simp at e
  |some i=>exact xP TT AR CM SE hS o t ps h fun gs hu f hf=>(hF.ok t gs (by rw[ht];rfl) hu f hf).1
 case buildSlice t n ps=>
  have e:(cV TT AR CM SE base o:(Nat→Nat)→SM Pay (Delta Pay))=fT TT base t n ps:=by funext β;simp only[cV,h]
  rw[e];exact oS TT AR CM SE hS o base t n ps h
 case indexAddr t x i=>
  have e:(cV TT AR CM SE base o:(Nat→Nat)→SM Pay (Delta Pay))=fun _=>d7 TT t x i:=by funext β;simp only[cV,h]
  rw[e];exact kA TT AR CM SE hS o t x i h
def tQ (r:ResultVar):SM Pay (SV×Prop):=match r with
 |.tmp t=>.rdT t fun v=>.ret (v,True)|.cell a t=>.rdT a fun v=>match v with
  |.ptr h b off=>match TT t with
   |some ⟨n,g,_,_⟩=>match g with
    |true=>.rdC h fun
     |.raw _ b' _ cs=>match Nat.ble (off+n) cs.length with
      |true=>.ret (.agg (lE cs off n),b=b')|false=>.fail
     |_=>.fail
    |false=>.rdF h off fun _ b' _ x=>.ret (x,b=b')
   |none=>.fail
  |_=>.fail
def lR:List ResultVar→SM Pay (List SV×Prop)
 |[]=>.ret ([],True)|r::rs=>(tQ TT r).bind fun x=>(lR rs).bind fun y=>.ret (x.1::y.1,x.2∧y.2)
def mW:List SV→SV
 |[x]=>x|xs=>.tup xs
def lP (a:Act):ResultVar→Sem Value
 |.tmp t=>pure (a.tmps.getD t undef)|.cell p t=>do loadVar t (←asAddr (a.tmps.getD p undef))
theorem uA (hS:Std P TT AR CM SE) {r:ResultVar} {σ:St Pay} {F:HProp} {a:Act} {w:World} {x:SV×Prop} (hm:cD σ F a w) (h:(tQ TT r).val σ=some x) (ho:x.2):
  (lP a r).run P w=.ok x.1.den w:=by
 cases r with
 |tmp t=>simp only[tQ,tH,aC,Option.some.injEq] at h;subst h;simp only[lP,Sem.run_pure,kQ,hm.1]|cell p t=>
  simp only[tQ,tH] at h;have hg:=kQ σ.tmps p;rw[←hm.1] at hg;split at h
  ·rename_i hh b off hv;rw[hv] at hg;split at h
   ·rename_i n g z k et;have hT:=hS.tt _ _ et;split at h
    ·simp only[aQ] at h;split at h
     ·rename_i own b' T cs hc;split at h
      ·rename_i hle;simp only[aC,Option.some.injEq] at h;subst h;have hb:b=b':=ho;subst hb;have hle:=Nat.le_of_ble_eq_true hle
       have:=iN (w:=w) (b:=b) (off:=off) (cs:=SV.dens (lE cs off n)) hT rfl (by rw[bD];simp[lE];omega) (fun j v hj=>by
        rw[cH,List.getElem?_map,Option.map_eq_some_iff] at hj;obtain⟨y,hy,rfl⟩:=hj;simp only[lE,List.getElem?_take,List.getElem?_drop] at hy;split at hy
        ·exact mF hm.2.2 hc hy
        ·cases hy)
       simp only[lP,←hg,SV.den,asAddr];simpa [Instr.loadAt,Instr.sureAddr] using this
      ·simp at h
     ·simp at h
    ·simp only[oZ] at h;split at h
     ·rename_i own b' T y hf;simp only[aC,Option.some.injEq] at h;subst h;have hb:b=b':=ho;subst hb;obtain⟨cs,hc,hx⟩:=mY hf;have:=cW (w:=w) (b:=b) (off:=off) hT rfl (mF hm.2.2 hc hx);simp only[lP,←hg,SV.den,asAddr];simpa [Instr.loadAt,Instr.sureAddr] using this
     ·cases h
   ·simp at h
  ·simp at h
theorem oJ (hS:Std P TT AR CM SE) {σ:St Pay} {F:HProp} {a:Act} {w:World} (hm:cD σ F a w):∀{rs:List ResultVar} {x:List SV×Prop},(lR TT rs).val σ=some x→x.2→
  (rs.mapM (lP a)).run P w=.ok (SV.dens x.1) w
 |[],x,h,ho=>by simp only[lR,aC,Option.some.injEq] at h;subst h;rfl
 |r::rs,x,h,ho=>by simp only[lR,aE,Option.bind_eq_some_iff] at h;obtain⟨y,h1,z,h2,h3⟩:=h;simp only[aC,Option.some.injEq] at h3;subst h3;have a1:=uA TT AR CM SE hS hm h1 ho.1;have a2:=oJ hS hm h2 ho.2;simp only[List.mapM_cons,Sem.run_bind,a1,Result.andThen_ok,a2,Sem.run_pure,SV.dens]
theorem uX (hS:Std P TT AR CM SE) {fn:Func} {σ:St Pay} {F:HProp} {a:Act} {w:World} (hm:cD σ F a w) {x:List SV×Prop} (h:(lR TT fn.results.toList).val σ=some x) (ho:x.2):
  (results fn a.tmps).run P w=.ok (mW x.1).den w:=by
 have:=oJ TT AR CM SE hS hm h ho;have hmm:(fn.results.mapM (lP a)).run P w=.ok (SV.dens x.1).toArray w:=by rw[Array.mapM_eq_mapM_toList,Sem.run_map,this];rfl
 have h2:(results fn a.tmps).run P w=((fn.results.mapM (lP a)).run P w).andThen fun vs w'=>.ok (if h:vs.size=1 then vs[0] else .tuple vs) w':=by unfold results;rw[Sem.run_bind];congr 1
 rw[h2,hmm];simp only[Result.andThen_ok];congr 1;obtain⟨l,p⟩:=x
 match l with
 |[]=>simp[mW,SV.dens,SV.den]|[y]=>simp[mW,SV.dens]|y::z::r=>simp[mW,SV.dens,SV.den]
variable (f:Oper→Nat→(Nat→Nat)→SM Pay (Delta Pay)) (nf:Oper→Nat) (nd:Oper→Bool) (CK:List RD→Bool)
variable (ST:Code→St Pay→(Ex→St Pay→Prop)→Prop)
variable (PV:List Nat→Nat→Bool) (pv:Oper→Bool) (xo:Oper→Nat→St Pay→(SV→List (Cel Pay)→Prop)→Prop)
def uQ (rs:List ResultVar) (Post:SV→List (Cel Pay)→Prop):Ex→St Pay→Prop
 |.exit _,_=>False|_,σ=>(lR TT rs).goK σ [] fun x _=>x.2∧Post (mW x.1) σ.heap
theorem CG (hm:P.follows .mixedOrders=true) (hS:Std P TT AR CM SE) (hf:∀o base,eG P o (f o base)) (hnd:∀o base,nd o=false→∀β β',f o base β=f o base β') (hCK:CK=fM) (hPV:PV=gD)
  {fid:FuncId} {fn:Func} {c:Code} {args:List SV} {heap:List (Cel Pay)} {F:HProp} {w:World} {Post:SV→List (Cel Pay)→Prop} (hx:∀o base,pv o=true→cE P F o (xo o base)) (hST:ST=KV P F)
  (hfn:P.funcs[fid]?=some fn) (hb:fn.body=some c) (hok:dD c=true)
  (h:nS f nf nd CK ST PV pv xo c ⟨args++List.replicate (fn.ntmps-args.length) (.v undef),heap⟩ (uQ TT fn.results.toList Post)) (hs:sat w (star (big heap) F)):
  Calls P fid (SV.dens args).toArray w fun e w'=>False∨∃v hp,Post v hp∧e=.returned v.den∧sat w' (star (big hp) F):=by
 refine calls_of_wp hfn hb ?_;refine lQ f nf nd CK ST PV pv xo hm hf hnd hCK hPV hx hST c _ _ hok h _ _ w trivial (fun e σ' a w hk hmo=>?_) ⟨?_,rfl,hs⟩
 ·have key:(lR TT fn.results.toList).goK σ' [] (fun x _=>x.2∧Post (mW x.1) σ'.heap)→bodyPost P fn (fun e w'=>False∨∃v hp,Post v hp∧e=.returned v.den∧sat w' (star (big hp) F)) .normal a w:=by
   intro h;rw[bO] at h;obtain⟨x,l,h1,h2,h3⟩:=h;exact⟨hmo.2.1,_,uX TT AR CM SE hS hmo (aR h1) h2,.inr ⟨_,_,h3,rfl,hmo.2.2⟩⟩
  cases e with
  |normal=>exact key hk|ret=>exact key hk|exit id=>exact hk.elim
 ·simp only[cH];apply Array.ext';simp[SV.den]
end
inductive FV where
 |oi (T:TypeId) (k:IntKind) (o:Option Int)|ob (T:TypeId) (o:Option Bool)|bys (T:TypeId) (n:Nat) (o:Option (List UInt8))|ul (T:TypeId) (k:IntKind) (n:Nat) (l:List Int)|st (T:TypeId) (fs:List FV)|np|sl (T:TypeId) (sz n:Nat) (l:List FV)|sc (v:Value)|fc (f:FuncId) (x:FV)
 deriving Inhabited
def dH (b:Nat) (off:Nat) (vs:List Value):HProp:=aG false b off vs
def AQ (l:List UInt8):List Value:=l.map fun c=>.int .u8 c.toNat
def rowD (T:TypeId) (vs:List Value) (b off cap:Nat):HProp:=exi fun n:Nat=>star (pure' (off+cap≤n∧vs.length≤cap)) (star (hdr b T n) (dH b off vs))
def slR (T:TypeId) (sz:Nat) (vs:List Value) (nn b off cap:Nat):HProp:=match nn with
 |0=>pure' (vs=[]∧cap=0)|_+1=>rowD T vs b off (cap*sz)
def slD (T:TypeId) (sz n:Nat) (vs:List Value) (x:Value):HProp:=
 exi fun c:Nat×Nat×Nat×Nat=>star (pure' (x=.slice (slA c.1 c.2.1 c.2.2.1) n c.2.2.2)) (slR T sz vs c.1 c.2.1 c.2.2.1 c.2.2.2)
mutual
def FV.den:FV→Value→HProp
 |.oi T k o,x=>match o with
  |none=>pure' (x=.pointer none)|some n=>exi fun b:Nat=>star (pure' (x=.pointer (some ⟨b,0,none⟩))) (star (hdr b T 1) (dH b 0 [.int k n]))
 |.ob T o,x=>match o with
  |none=>pure' (x=.pointer none)|some n=>exi fun b:Nat=>star (pure' (x=.pointer (some ⟨b,0,none⟩))) (star (hdr b T 1) (dH b 0 [.bool n]))
 |.bys T n o,x=>match o with
  |none=>pure' (x=.slice none 0 0∧n=0)|some l=>star (pure' (l.length=n)) (exi fun c:Nat×Nat×Nat=>star (pure' (x=.slice (slA 1 c.1 c.2.1) l.length c.2.2)) (rowD T (AQ l) c.1 c.2.1 c.2.2))
 |.ul T k n l,x=>star (pure' (l.length=n)) (slD T 1 n (l.map (.int k)) x)|.st T fs,x=>exi fun b:Nat=>star (pure' (x=.pointer (some ⟨b,0,none⟩))) (exi fun xs:List Value=>star (star (hdr b T fs.length) (dH b 0 xs)) (FV.dens fs xs))|.np,x=>pure' (x=.pointer none)|.sl T sz n l,x=>exi fun ps:List Value=>star (pure' (ps.length=n*sz)) (star (slD T sz n ps x) (FV.dens l ps))|.sc v,x=>pure' (x=v∧v.oneCell'=true)|.fc f g,x=>exi fun p:Value=>star (pure' (x=.func (.func f) #[] #[p])) (FV.den g p)
def FV.dens:List FV→List Value→HProp
 |[],[]=>emp|f::fs,x::xs=>star (f.den x) (FV.dens fs xs)|_,_=>pure' False
end
def tX (b:Nat) (T:TypeId) (fs:List FV):HProp:=exi fun xs:List Value=>star (star (hdr b T fs.length) (dH b 0 xs)) (FV.dens fs xs)
theorem aU.emp:aU emp:=fun _ _ h=>h
theorem aU.pure' (p:Prop):aU (pure' p):=fun _ _ h=>h.1
theorem aU.ipts (l:pX) (c:Cn):aU (ipts l c):=fun _ _ h=>h.1
theorem aU.star {A B:HProp} (h:aU A) (h':aU B):aU (star A B):=by rintro m i ⟨m₁,m₂,d,rfl,a,b⟩;rw[h _ _ a,h' _ _ b,cQ]
theorem aU.exi {α:Type} {A:α→HProp} (h:∀x,aU (A x)):aU (exi A):=fun m i ⟨x,hx⟩=>h x m i hx
theorem aU.cells (b:Nat):∀(vs:List Value) (off:Nat),aU (aG false b off vs)
 |[],_=>aU.emp|v::vs,off=>(aU.ipts _ _).star (aU.cells b vs (off+1))
theorem aU.rowD (T:TypeId) (vs:List Value) (b off cap:Nat):aU (rowD T vs b off cap):=aU.exi fun n=>(aU.pure' _).star ((aU.ipts _ _).star (aU.cells _ _ _))
theorem aU.slR (T:TypeId) (sz:Nat) (vs:List Value) (nn b off cap:Nat):aU (slR T sz vs nn b off cap):=by
 cases nn with
 |zero=>exact aU.pure' _|succ n=>exact aU.rowD _ _ _ _ _
theorem aU.slD (T:TypeId) (sz n:Nat) (vs:List Value) (x:Value):aU (slD T sz n vs x):=aU.exi fun c=>(aU.pure' _).star (aU.slR _ _ _ _ _ _ _)
mutual
theorem FV.pers:∀(f:FV) (x:Value),aU (f.den x)
 |.oi T k o,x=>by
  cases o with
  |none=>exact aU.pure' _|some n=>exact aU.exi fun b=>(aU.pure' _).star ((aU.ipts _ _).star (aU.cells _ _ _))
 |.ob T o,x=>by
  cases o with
  |none=>exact aU.pure' _|some n=>exact aU.exi fun b=>(aU.pure' _).star ((aU.ipts _ _).star (aU.cells _ _ _))
 |.bys T n o,x=>by
  cases o with
  |none=>exact aU.pure' _|some l=>exact(aU.pure' _).star<|aU.exi fun b=>(aU.pure' _).star (aU.rowD _ _ _ _ _)
 |.ul T k n l,x=>(aU.pure' _).star (aU.slD _ _ _ _ _)|.st T fs,x=>aU.exi fun b=>(aU.pure' _).star (aU.exi fun xs=>((aU.ipts _ _).star (aU.cells _ _ _)).star (FV.persL fs xs))|.np,x=>aU.pure' _|.sl T sz n l,x=>aU.exi fun ps=>(aU.pure' _).star ((aU.slD _ _ _ _ _).star (FV.persL l ps))|.sc v,x=>aU.pure' _|.fc f g,x=>aU.exi fun p=>(aU.pure' _).star (FV.pers g p)
theorem FV.persL:∀(fs:List FV) (xs:List Value),aU (FV.dens fs xs)
 |[],[]=>aU.emp|f::fs,x::xs=>(FV.pers f x).star (FV.persL fs xs)|[],x::xs=>aU.pure' _|f::fs,[]=>aU.pure' _
end
theorem t7 (b:Nat) (T:TypeId) (fs:List FV):aU (tX b T fs):=aU.exi fun xs=>((aU.ipts _ _).star (aU.cells _ _ _)).star (FV.persL fs xs)
theorem lA {w:World} {A B:HProp} (h:aU A) (hs:sat w (star A B)):sat w (star A (star A B)):=by rw[←aA,h.dup];exact hs
theorem gG {w:World}:∀{fs:List FV} {xs:List Value} {A:HProp},sat w (star (FV.dens fs xs) A)→fs.length=xs.length
 |[],[],_,_=>rfl|f::fs,x::xs,A,h=>by simp only[FV.dens,aA] at h;simp[gG h.snd]
 |[],x::xs,A,h=>by simp only[FV.dens] at h;exact((aB.1 h).1).elim
 |f::fs,[],A,h=>by simp only[FV.dens] at h;exact((aB.1 h).1).elim
theorem mO {w:World}:∀{fs:List FV} {xs:List Value} {A:HProp} {j:Nat} {f:FV},sat w (star (FV.dens fs xs) A)→fs[j]?=some f→∃x,xs[j]?=some x∧sat w (star (f.den x) (star (FV.dens fs xs) A))
 |[],xs,A,j,f,_,h=>by simp at h
 |g::fs,[],A,j,f,h,_=>by simp only[FV.dens] at h;exact((aB.1 h).1).elim
 |g::fs,x::xs,A,j,f,h,hj=>by
  simp only[FV.dens,aA] at h⊢;cases j with
  |zero=>simp only[List.getElem?_cons_zero,Option.some.injEq] at hj;subst hj;exact⟨x,rfl,lA (FV.pers g x) h⟩|succ j=>rw[aM] at h;obtain⟨y,h1,h2⟩:=mO h (by simpa using hj);refine⟨y,by simpa using h1,?_⟩;rw[aM (g.den x)];exact h2
theorem I9 {w:World} {b:Nat} {T:TypeId} {fs:List FV} {A:HProp} {j:Nat} {f:FV} (h:sat w (star (tX b T fs) A)) (hj:fs[j]?=some f):
  ∃x,w.cell? ⟨b,j,none⟩=some x∧sat w (star (f.den x) (star (tX b T fs) A)):=by
 have h:=lA (t7 b T fs) h;generalize star (tX b T fs) A=A' at h⊢;rw[tX,aL] at h;obtain⟨xs,h⟩:=h;simp only[aA] at h;have h0:=h;rw[aM (dH b 0 xs)] at h;rw[aM (hdr b T fs.length)] at h;obtain⟨x,h1,h2⟩:=mO h hj;refine⟨x,?_,?_⟩
 ·have:=aX (own:=false) xs 0 (h0.snd) j x h1;simpa using this.1
 ·refine h2.mono (eD.star (eD.refl _) ?_);intro m i ⟨m₁,m₂,d,e,a,c⟩;have e1:=FV.persL _ _ _ _ a;subst e1;subst e;rw[cQ];obtain⟨m₁,m₂,d,e,a,c⟩:=c;have e1:=aU.ipts _ _ _ _ a;subst e1;subst e;rw[cQ];obtain⟨m₁,m₂,d,e,a,c⟩:=c;have e1:=aU.cells _ _ _ _ _ a;subst e1;subst e;rw[cQ];exact c
theorem cF {w:World} {p:Prop} {A:HProp} (h:sat w (star (pure' p) A)):p:=(aB.1 h).1
def FV.len:FV→Nat
 |.bys _ n _=>n|.ul _ _ n _=>n|.sl _ _ n _=>n|_=>0
def FV.row (nn b off cap:Nat):FV→HProp
 |.bys T n o=>match o with
  |none=>pure' ((nn=0∧cap=0)∧n=0)|some l=>star (pure' (nn≠0∧l.length=n)) (rowD T (AQ l) b off cap)
 |.ul T k n l=>star (pure' (l.length=n)) (slR T 1 (l.map (.int k)) nn b off cap)|.sl T sz n l=>exi fun ps:List Value=>star (pure' (ps.length=n*sz)) (star (slR T sz ps nn b off cap) (FV.dens l ps))|_=>pure' False
theorem aU.row (nn b off cap:Nat) (f:FV):aU (f.row nn b off cap):=by
 cases f with
 |bys T n o=>cases o with
  |none=>exact aU.pure' _|some l=>exact(aU.pure' _).star (aU.rowD _ _ _ _ _)
 |ul T k n l=>exact(aU.pure' _).star (aU.slR _ _ _ _ _ _ _)|sl T sz n l=>exact aU.exi fun ps=>(aU.pure' _).star ((aU.slR _ _ _ _ _ _ _).star (FV.persL _ _))|_=>exact aU.pure' _
def FV.sz:FV→Nat
 |.sl _ sz _ _=>sz|_=>1
def bU (nn b off len cap:Nat):HProp:=match nn with
 |0=>emp|_+1=>exi fun vs:List Value=>star (pure' (len+vs.length=cap)) (aG true b (off+len) vs)
def eM:Bool→HProp→HProp
 |true,A=>A|false,_=>emp
inductive MK where
 |set (l:List Int)|ptrs (T:TypeId) (l:List (Int×Nat×Option (List SV)))
def keysq:List (Int×Nat×Option (List SV))→List Int
 |[]=>[]|x::r=>x.1::keysq r
def MK.keys:MK→List Int
 |.set l=>l|.ptrs _ l=>keysq l
def MK.m:MK→List (Value×Value)
 |.set l=>l.map fun k=>(.int .u64 k,.agg #[])|.ptrs _ l=>l.map fun x=>(.int .u64 x.1,.pointer (some ⟨x.2.1,0,none⟩))
def fR (T:TypeId):List (Int×Nat×Option (List SV))→HProp
 |[]=>emp
 |x::r=>star (match x.2.2 with
  |some cs=>star (hdr x.2.1 T cs.length) (aG true x.2.1 0 (SV.dens cs))
  |none=>emp) (fR T r)
def MK.own:MK→HProp
 |.set _=>emp|.ptrs T l=>fR T l
structure oU (es:Array MapEntry) (clock:Nat) (k:MK):Prop where
 m:(es.toList.map (fun e=>(e.key,e.val))).Perm k.m
 nd:k.keys.Nodup
 nb:(es.toList.map (·.born)).Nodup
 lt:∀e∈es.toList,e.born<clock
def RgOk (es:Array MapEntry) (seen:Array Nat) (cur:Option Int) (left:List Int):Prop:=
 (left.map (Value.int .u64)).Perm ((leftOf es seen).toList.map (·.key))∧match cur with
  |none=>True|some k=>∃e∈es.toList,e.key=.int .u64 k∧∃s0:Array Nat,seen=s0.push e.born
def iS (b:Nat) (es:Array MapEntry) (clock:Nat):Option (Nat×Option Int×List Int)→HProp
 |none=>emp|some (r,cur,left)=>exi fun seen:Array Nat=>star (pure' (RgOk es seen cur left)) (pts (r,none) (.ob (.mapIter (some b) clock seen clock)))
def dA (b:Nat) (k:MK) (it:Option (Nat×Option Int×List Int)):HProp:=exi fun p:Array MapEntry×Nat=>star (pure' (oU p.1 p.2 k)) (star (pts (b,none) (.ob (.map p.1 p.2))) (star k.own (iS b p.1 p.2 it)))
def jW (r:Nat):HProp:=exi fun p:Nat×Array Nat×Nat=>pts (r,none) (.ob (.mapIter none p.1 p.2.1 p.2.2))
def dL (b:Nat):HProp:=exi fun p:Array MapEntry×Nat=>pts (b,none) (.ob (.map p.1 p.2))
def iG (T:TypeId) (k:IntKind) (nn b off cap n:Nat) (l:List Int):HProp:=match nn with
 |0=>pure' (l=[]∧n=0∧cap=0)|_+1=>exi fun N:Nat=>star (pure' (l.length=n∧n≤cap∧off+cap≤N)) (star (hdr b T N) (star (aG true b off (l.map (Value.int k))) (bU nn b off n cap)))
def iB:Option Nat→Value
 |none=>.pointer none|some b=>.pointer (some ⟨b,0,none⟩)
def lO (T:TypeId) (nn b off cap:Nat) (ps:List (Option Nat)):HProp:=match nn with
 |0=>pure' (ps=[]∧cap=0)|_+1=>exi fun N:Nat=>star (pure' (ps.length≤cap∧off+cap≤N)) (star (hdr b T N) (star (aG true b off (ps.map iB)) (bU nn b off ps.length cap)))
inductive Pay where
 |st (b:Nat) (T:TypeId) (fs:List FV)|sl (sp:Bool) (nn b off cap:Nat) (f:FV)|im (x:Value) (f:FV)|h (A:HProp)|mp (b:Nat) (k:MK) (it:Option (Nat×Option Int×List Int))|ri (r:Nat)|mr (T:TypeId) (k:IntKind) (nn b off cap n:Nat) (l:List Int)|mo (T:TypeId) (nn b off cap:Nat) (ps:List (Option Nat))
instance:PayDen Pay where
 den
  |.st b T fs=>tX b T fs|.sl sp nn b off cap f=>star (f.row nn b off cap) (eM sp (bU nn b off (f.len*f.sz) (cap*f.sz)))|.im x f=>f.den x|.h A=>A|.mp b k it=>dA b k it|.ri r=>jW r|.mr T k nn b off cap n l=>iG T k nn b off cap n l|.mo T nn b off cap ps=>lO T nn b off cap ps
def ptV (nn b:Nat):Value:=match nn with
 |0=>.pointer none|_+1=>.pointer (some ⟨b,0,none⟩)
abbrev C:=Cel Pay
def M7:Value→SV
 |.int k n=>.i k n|.bool b=>.bl b|v=>.v v
theorem pL (v:Value):(M7 v).den=v:=by cases v<;>rfl
def cP (base:Nat) (β:Nat→Nat):FV→SV×C
 |.oi T k o=>match o with
  |none=>(.v (.pointer none),.free)|some n=>(.ptr base (β 0) 0,.raw false (β 0) T [.i k n])
 |.ob T o=>match o with
  |none=>(.v (.pointer none),.free)|some n=>(.ptr base (β 0) 0,.raw false (β 0) T [.bl n])
 |.bys T n o=>(.sl base (β 3) (β 0) (β 1) n (β 2),.prd (.sl false (β 3) (β 0) (β 1) (β 2) (.bys T n o)))|.ul T k n l=>(.sl base (β 3) (β 0) (β 1) n (β 2),.prd (.sl false (β 3) (β 0) (β 1) (β 2) (.ul T k n l)))|.st T fs=>(.ptr base (β 0) 0,.prd (.st (β 0) T fs))|.np=>(.v (.pointer none),.free)|.sl T sz n l=>(.sl base (β 3) (β 0) (β 1) n (β 2),.prd (.sl false (β 3) (β 0) (β 1) (β 2) (.sl T sz n l)))|.sc v=>(M7 v,.free)|.fc f g=>(.fn (.func f) [] [(cP base β g).1],(cP base β g).2)
theorem lX {w:World} (base:Nat) {f:FV} {x:Value} {A:HProp} (h:sat w (star (f.den x) A)):
  ∃β,(cP base β f).1.den=x∧sat w (star ((cP base β f).2.den) A):=by
 cases f with
 |oi T k o=>
  cases o with
  |none=>simp only[FV.den] at h;have:=aB.1 h;exact⟨fun _=>0,by simp[cP,SV.den,this.1],by simpa [cP,Cel.den,aH] using this.2⟩|some n=>simp only[FV.den] at h;rw[aL] at h;obtain⟨b,h⟩:=h;rw[aA,aB] at h;exact⟨fun _=>b,by simp[cP,SV.den,h.1],by simpa [cP,Cel.den,SV.dens,SV.den,dH,aA] using h.2⟩
 |ob T o=>
  cases o with
  |none=>simp only[FV.den] at h;have:=aB.1 h;exact⟨fun _=>0,by simp[cP,SV.den,this.1],by simpa [cP,Cel.den,aH] using this.2⟩|some n=>simp only[FV.den] at h;rw[aL] at h;obtain⟨b,h⟩:=h;rw[aA,aB] at h;exact⟨fun _=>b,by simp[cP,SV.den,h.1],by simpa [cP,Cel.den,SV.dens,SV.den,dH,aA] using h.2⟩
 |bys T n o=>
  cases o with
  |none=>simp only[FV.den] at h;obtain⟨⟨h1,h2⟩,h3⟩:=aB.1 h;refine⟨fun _=>0,by simp[cP,SV.den,h1,h2,slA],?_⟩;simp only[cP,Cel.den,PayDen.den,FV.row,eM,aO,aB];exact⟨⟨⟨trivial,trivial⟩,h2⟩,h3⟩
  |some l=>simp only[FV.den] at h;rw[aA,aB,aL] at h;obtain⟨hl,⟨b,off,cap⟩,h⟩:=h;rw[aA,aB] at h;refine⟨fun|0=>b|1=>off|2=>cap|_=>1,by simp[cP,SV.den,h.1,hl],?_⟩;have h2:=h.2;simp only at h2;simp only[cP,Cel.den,PayDen.den,FV.row,eM,aA,aH,aB];exact⟨⟨by simp,hl⟩,h2⟩
 |ul T k n l=>simp only[FV.den,slD] at h;rw[aA,aB,aL] at h;obtain⟨hl,⟨nn,b,off,cap⟩,h⟩:=h;rw[aA,aB] at h;refine⟨fun|0=>b|1=>off|2=>cap|_=>nn,by simp[cP,SV.den,h.1],?_⟩;simp only[cP,Cel.den,PayDen.den,FV.row,eM,aA,aH,aB];exact⟨hl,h.2⟩
 |st T fs=>simp only[FV.den] at h;rw[aL] at h;obtain⟨b,h⟩:=h;rw[aA,aB] at h;exact⟨fun _=>b,by simp[cP,SV.den,h.1],by simpa [cP,Cel.den,PayDen.den,tX] using h.2⟩
 |np=>simp only[FV.den] at h;have:=aB.1 h;exact⟨fun _=>0,by simp[cP,SV.den,this.1],by simpa [cP,Cel.den,aH] using this.2⟩|sl T sz n l=>simp only[FV.den] at h;rw[aL] at h;obtain⟨ps,h⟩:=h;simp only[slD] at h;rw[aA,aB,aA,aL] at h;obtain⟨hl,⟨nn,b,off,cap⟩,h⟩:=h;rw[aA,aB] at h;obtain⟨e,h⟩:=h;simp only at e h;refine⟨fun|0=>b|1=>off|2=>cap|_=>nn,by simp[cP,SV.den,e],?_⟩;simp only[cP,Cel.den,PayDen.den,FV.row,eM,aA,aH];rw[aL];refine⟨ps,?_⟩;rw[aA,aB];exact⟨hl,by rw[aA];exact h⟩
 |sc v=>simp only[FV.den] at h;have:=aB.1 h;exact⟨fun _=>0,by simp[cP,pL,this.1],by simpa [cP,Cel.den,aH] using this.2⟩|fc f g=>simp only[FV.den] at h;rw[aL] at h;obtain⟨p,h⟩:=h;rw[aA] at h;obtain⟨ex,h3⟩:=aB.1 h;subst ex;obtain⟨β,e,h2⟩:=lX base (f:=g) h3;exact⟨β,by simp[cP,SV.den,SV.dens,e],by simpa only[cP] using h2⟩
termination_by structural f
section
variable {P:Program}
variable (TT:TypeId→Option TyI) (AR:lT→IntKind→Int→Int→Int) (CM:mU→Int→Int→Bool) (SE:ByteArray→ByteArray→Bool)
def zD (base:Nat) (t:TypeId) (x:Operand) (β:Nat→Nat) (v:SV):SM Pay (Delta Pay):=match v with
 |.ptr h b off=>.rdS h fun r=>match r with
  |true=>lM TT t x|false=>.rdC h fun c=>match c with
   |.prd (.st b' _ fs)=>match fs[off]?,TT t with
    |some f,some ⟨_,false,_,_⟩=>match cP base β f with
     |(sv,.free)=>.ret {res:=sv,obl:=b=b'}|(sv,c)=>.rdC base fun c0=>match c0 with
      |.free=>.ret {res:=sv,ws:=[.cel base c],obl:=b=b'}|_=>.fail
    |_,_=>.fail
   |_=>.fail
 |_=>.fail
def AE (base:Nat) (t:TypeId) (x:Operand) (β:Nat→Nat):SM Pay (Delta Pay):=(ev x).bind (zD TT base t x β)
theorem jZ {L:List C} {base:Nat} {F:HProp} {w:World} (hb:L.getD base .nil=.free) (c:C) (h:sat w (star c.den (star (big L) F))):sat w (star (big (L.set base c)) F):=by have hp:=iM hb;rw[dW _ _ _ hp,aA];rw[bV L base,hb] at h;simpa [Cel.den,aH] using h
theorem IY (hS:Std P TT AR CM SE) (o:Oper) (base:Nat) (t:TypeId) (x:Operand) (ho:o.op=.load t x):bT P o (AE TT base t x):=by
 intro σ F a w next Q hm hv hout hk
 obtain⟨d0,hv0,hob0⟩:=hv (fun _=>0);have hvs:=hv;simp only[AE,aE,Option.bind_eq_some_iff] at hv0;obtain⟨v,h1,h2⟩:=hv0;have e:=aK hm h1;have hval:∀β,(AE TT base t x β).val σ=(zD TT base t x β v).val σ:=by intro β;simp only[AE,aE,h1,Option.bind_some]
 cases v with
 |ptr h b off=>
  simp only[zD,tE] at h2 hval;cases hr:(σ.heap.getD h .nil).isRaw with
  |true=>
   simp only[hr] at h2 hval;refine nG TT AR CM SE hS o t x ho σ F a w next Q hm (fun β=>?_) hout (fun β d w' hd hf hs=>?_)
   ·obtain⟨d,hd,ho⟩:=hvs β;rw[hval] at hd;exact⟨d,hd,ho⟩
   ·exact hk β d w' (by rw[hval];exact hd) hf hs
  |false=>
   simp only[hr,aQ] at h2 hval;cases hc:σ.heap.getD h .nil with
   |prd p=>
    cases p with
    |st b' T fs=>
     simp only[hc] at h2 hval;cases hf:fs[off]? with
     |none=>simp[hf] at h2|some f=>
      cases ht:TT t with
      |none=>simp[hf,ht] at h2|some ti=>
       obtain⟨n,g,z,k⟩:=ti;cases g with
       |true=>simp[hf,ht] at h2|false=>
        simp only[hf,ht] at h2 hval;have hT:=hS.tt _ _ ht;have hs:=jI (p:=h) hm.2.2;rw[hc] at hs;simp only[Cel.den,PayDen.den] at hs;obtain⟨y,hy,hs2⟩:=I9 hs hf;have hs3:sat w (star (f.den y) (star (big σ.heap) F)):=by rw[bV σ.heap h,hc];simpa only[Cel.den,PayDen.den,aA] using hs2
        obtain⟨β,hx,hs4⟩:=lX base hs3;have hvb:=hval β;obtain⟨d,hd,hobl⟩:=hvs β;rw[hvb] at hd;have hrun:∀sv:SV,sv.den=y→b=b'→(execOp a.eval o).run P w=.ok (.value sv.den) w:=by intro sv e2 hb;subst hb;have:=cW (w:=w) (b:=b) (off:=off) hT rfl hy;simp only[execOp,ho,e,SV.den,e2];simp[this]
        left;generalize hsh:cP base β f=sc at hd hx hs4;obtain⟨sv,c⟩:=sc;simp only at hx hs4;cases c with
        |free=>simp only[aC,Option.some.injEq] at hd;subst hd;unfold Oper.wp;rw[hrun sv hx hobl];exact hk β {res:=sv,obl:=b=b'} w (by rw[hvb,hsh];rfl) trivial (by simpa [puts] using hm.2.2)|nil=>
         simp only[aQ] at hd;split at hd
         ·rename_i hfree;simp only[aC,Option.some.injEq] at hd;subst hd;unfold Oper.wp;rw[hrun sv hx hobl];exact hk β {res:=sv,ws:=[.cel base .nil],obl:=b=b'} w (by rw[hvb,hsh];simp only[aQ,hfree,aC]) trivial (jZ hfree _ hs4)
         ·simp at hd
        |raw own b2 T2 cs2=>
         simp only[aQ] at hd;split at hd
         ·rename_i hfree;simp only[aC,Option.some.injEq] at hd;subst hd;unfold Oper.wp;rw[hrun sv hx hobl];exact hk β {res:=sv,ws:=[.cel base (.raw own b2 T2 cs2)],obl:=b=b'} w (by rw[hvb,hsh];simp only[aQ,hfree,aC]) trivial (jZ hfree _ hs4)
         ·simp at hd
        |prd p2=>
         simp only[aQ] at hd;split at hd
         ·rename_i hfree;simp only[aC,Option.some.injEq] at hd;subst hd;unfold Oper.wp;rw[hrun sv hx hobl];exact hk β {res:=sv,ws:=[.cel base (.prd p2)],obl:=b=b'} w (by rw[hvb,hsh];simp only[aQ,hfree,aC]) trivial (jZ hfree _ hs4)
         ·simp at hd
    |sl _ _ _ _ _ _=>simp only[hc] at h2;exact absurd h2 (by simp)|im _ _=>simp only[hc] at h2;exact absurd h2 (by simp)|h A=>simp only[hc] at h2;exact absurd h2 (by simp)|mp _ _ _=>simp only[hc] at h2;exact absurd h2 (by simp)|ri _=>simp only[hc] at h2;exact absurd h2 (by simp)|mr _ _ _ _ _ _ _ _=>simp only[hc] at h2;exact absurd h2 (by simp)|mo _ _ _ _ _ _=>simp only[hc] at h2;exact absurd h2 (by simp)
   |raw own b2 T2 cs2=>rw[hc] at hr;simp[Cel.isRaw] at hr|nil=>simp only[hc] at h2;exact absurd h2 (by simp)|free=>simp only[hc] at h2;exact absurd h2 (by simp)
 |_=>simp[zD] at h2
end
instance:Std.Associative star:=⟨aA⟩
instance:Std.Commutative star:=⟨fV⟩
theorem aI {w:World} {A B:HProp} (h:sat w A) (e:A=B):sat w B:=e▸h
theorem yH {α:Type} {A:HProp} {B:α→HProp} (x:α) (h:eD A (B x)):eD A (exi B):=fun m i a=>⟨x,h m i a⟩
theorem uG {p:Prop} {A:HProp} (h:p):eD A (star (pure' p) A):=fun m i a=>⟨cG,m,fun _=>.inl rfl,by funext l;simp[un,cG],⟨rfl,h⟩,a⟩
theorem bJ (own:Bool) (b:Nat):∀(vs us:List Value) (off:Nat),aG own b off (vs++us)=star (aG own b off vs) (aG own b (off+vs.length) us)
 |[],us,off=>by simp[aG,aH]
 |v::vs,us,off=>by simp only[List.cons_append,aG,aA,List.length_cons];rw[bJ own b vs us (off+1),Nat.add_right_comm off 1,Nat.add_assoc off vs.length 1]
theorem eT {w:World} {b:Nat}:∀(vs:List Value) (off:Nat) {A:HProp},sat w (star (aG true b off vs) A)→sat w (star (aG false b off vs) A)
 |[],_,A,h=>h|v::vs,off,A,h=>by simp only[aG,aA,if_true,Bool.false_eq_true,if_false] at h⊢;have h1:=BI h;rw[aM] at h1⊢;exact eT vs (off+1) h1
theorem iA {b:Nat}:∀(news us:List Value) (off:Nat) (w:World) {A:HProp},sat w (star (aG true b off us) A)→news.length≤us.length→
  sat (w.setCells b off news) (star (aG true b off (news++us.drop news.length)) A)
 |[],us,off,w,A,h,_=>by simpa [World.setCells] using h
 |x::news,[],off,w,A,h,hl=>by simp at hl
 |x::news,u::us,off,w,A,h,hl=>by simp only[aG,aA,if_true] at h;have h1:=nT (v':=x) h;rw[aM] at h1;have h2:=iA news us (off+1) _ h1 (by simpa using hl);simp only[World.setCells,List.cons_append,List.length_cons,List.drop_succ_cons,aG,aA,if_true];rw[aM];exact h2
theorem eW {w:World} {T:TypeId} {vs:List Value} {b off cap:Nat} {A:HProp} (h:sat w (star (rowD T vs b off cap) A)):∀j v,vs[j]?=some v→w.cell? ⟨b,off+j,none⟩=some v:=by rw[rowD,aL] at h;obtain⟨n,h⟩:=h;simp only[aA] at h;intro j v hj;have:=aX (own:=false) vs off ((aB.1 h).2.snd) j v hj;exact this.1
theorem zA {P:Program} {w:World} {T tx e':TypeId} {sz n:Nat} {vs:List Value} {nn b off cap:Nat} {A:HProp} (hk:P.underlying tx=some (.slice e')) (hv:vs.length=n*sz) (hz:0<sz) (h:sat w (star (slR T sz vs nn b off cap) A)) (h1:∀u∈vs,u.oneCell'=true):
  Src P sz tx (.slice (slA nn b off) n cap) n vs w:=by
 cases nn with
 |zero=>
  obtain⟨rfl,rfl⟩:=(aB.1 h).1;have:n=0:=by
   cases n with
   |zero=>rfl|succ n=>simp[Nat.succ_mul] at hv;omega
  subst this;exact Src.ofNil w hk 0
 |succ nn=>refine Src.ofSlice w hk _ _ _ _ hv (fun j u hj=>?_) h1;rw[Addr.add_lit];exact eW h j u hj
theorem CW {P:Program} {w:World} {T:TypeId} {sz n:Nat} {vs:List Value} {nn b off cap:Nat} {A:HProp} (hv:vs.length=n*sz) (h:sat w (star (slR T sz vs nn b off cap) A)):
  (Builtin.firstCells sz n (.slice (slA nn b off) n cap)).run P w=.ok vs.toArray w:=by
 cases nn with
 |zero=>obtain⟨rfl,rfl⟩:=(aB.1 h).1;exact run_firstCells_none w sz n n 0
 |succ nn=>refine run_firstCells_some w sz n ⟨b,off,none⟩ n cap vs hv (fun j u hu=>?_);rw[Addr.add_lit];exact eW h j u hu
theorem xW {P:Program} {w:World} {t tx ty e:TypeId} {sz m:Nat} {i:TypeInfo} {z:Value} (ht:P.underlying t=some (.slice e)) (hi:P.info? e=some i) (hz:i.zero=some z) (hsz:i.size=sz) (hzs:z.cells.size=sz) (hz0:0<sz) (hby:i.bytes≤32768)
  {T:TypeId} {vs news:List Value} {nn b off cap n:Nat} {x:Value} {sp:Bool} {A:HProp}
  (hv:vs.length=m*sz)
  (h:sat w (star (slR T sz vs nn b off cap) (star (eM sp (bU nn b off (m*sz) (cap*sz))) A)))
  (hx:Src P sz tx x n news w) (hT:T=e) (hsp:sp=true∨Nat.ble cap m=true) (hle:Nat.ble (m+n) 4294967296=true):
  ∃nn' b' off' cap' w',(Builtin.append_ #[t,tx] ty #[.slice (slA nn b off) m cap,x]).run P w=.ok (.slice (slA nn' b' off') (m+n) cap') w'∧
   sat w' (star (slR T sz (vs++news) nn' b' off' cap') (star (bU nn' b' off' ((m+n)*sz) (cap'*sz)) A)):=by
 have hn:news.length=n*sz:=hx.newsLen;have hle:=Nat.le_of_ble_eq_true hle
 by_cases hroom:m+n≤cap
 ·cases nn with
  |zero=>
   obtain⟨⟨rfl,rfl⟩,h2⟩:=aB.1 h;have:n=0:=by omega
   subst this;have:m=0:=by omega
   subst this;have hnews:news=[]:=List.eq_nil_of_length_eq_zero (by simpa using hn);subst hnews;refine⟨0,0,0,0,w,?_,?_⟩
   ·rcases hx.kind with ⟨e',hk⟩|hk<;>simp[Builtin.append_,run_underlying ht,run_underlying hk,sizeOf,typeInfo,hi,hsz,hx.len,hx.cells,slA]
   ·simp only[List.append_nil,slR,aB,and_self,true_and,bU,aH];cases sp<;>simpa [bU,eM,aH] using h2
  |succ nn=>
   have hcells:=eW h;simp only[slR,rowD] at h;rw[aL] at h;obtain⟨N,h⟩:=h;simp only[aA] at h;obtain⟨⟨hN,hlc⟩,h⟩:=aB.1 h;have hcm:m*sz+n*sz≤cap*sz:=by rw[←Nat.add_mul];exact Nat.mul_le_mul_right _ hroom
   have key:∃us:List Value,vs.length+us.length=cap*sz∧sat w (star (aG true b (off+vs.length) us) (star (hdr b T N) (star (dH b off vs) A))):=by
    cases sp with
    |true=>simp only[eM,bU] at h;rw[aM (dH b off vs),aM (hdr b T N),aL] at h;obtain⟨us,h⟩:=h;rw[aA,aB] at h;rw[hv];exact⟨us,h.1,h.2⟩
    |false=>
     have:cap=m:=by
      rcases hsp with h'|h'
      ·cases h'
      ·have:=Nat.le_of_ble_eq_true h';omega
     exact⟨[],by simp[this,hv],by simpa [aG,eM,aH] using h⟩
   obtain⟨us,hus,h⟩:=key;have hrun:=run_append_room_src (P:=P) w t tx ty e i ht hi b off m cap x n news (by rw[hsz];exact hx) hroom
    (fun j hj=>by
     obtain⟨u,hu⟩:∃u,us[j]?=some u:=⟨us[j]'(by omega),by simp[List.getElem?_eq_getElem (show j<us.length by omega)]⟩;have:=aX us (off+vs.length) h j u hu
     rw[hsz,←hv,this.1];rfl)
    (fun j hj=>by
     obtain⟨u,hu⟩:∃u,us[j]?=some u:=⟨us[j]'(by omega),by simp[List.getElem?_eq_getElem (show j<us.length by omega)]⟩;have:=aX us (off+vs.length) h j u hu
     rw[hsz,←hv];exact this.2)
   rw[hsz,←hv] at hrun;refine⟨1,b,off,cap,_,hrun,?_⟩;have h2:=iA news us (off+vs.length) w h (by omega);rw[bJ,aA] at h2;have h3:=eT _ _ h2;simp only[slR,rowD,bU,dH];rw[aL];refine⟨N,?_⟩;rw[aA,aB];refine⟨⟨hN,by simp only[List.length_append];omega⟩,?_⟩;rw[bJ];have hmn:(m+n)*sz=m*sz+n*sz:=Nat.add_mul _ _ _;have e:eD (aG true b (off+vs.length+news.length) (us.drop news.length)) (exi fun us':List Value=>star (pure' ((m+n)*sz+us'.length=cap*sz)) (aG true b (off+(m+n)*sz) us')):=by rw[show off+(m+n)*sz=off+vs.length+news.length by omega];exact yH _ (uG (by simp only[List.length_drop];omega))
   rw[aM] at h3;exact aI (sat.mono h3 (eD.star e (eD.refl _))) (by simp only[dH];ac_rfl)
 ·have hfit:Builtin.nextslicecap (m+n) cap*i.bytes≤281474976710656:=by
   have h1:=nextslicecap_le (need:=m+n) (old:=cap) (by omega)
   calc _≤(2*4294967296)*32768:=Nat.mul_le_mul (by omega) hby
    _≤_:=by decide
  have hrun:=run_append_grow_src (P:=P) w t tx ty e i z ht hi hz (slA nn b off) m cap vs
   (by rw[hsz];exact CW hv (eU (w':=w.drew) rfl h)) x n news (by rw[hsz];exact hx) (by omega) (by omega) hfit
  refine⟨1,w.heap.size,0,grownCap w (m+n) cap e,_,hrun,?_⟩;have hA:sat w.drew A:=eU rfl h.snd.snd;have hg:=grownCap_ge w (m+n) cap e;have h2:=eX (w:=w.drew) true ((vs++news)++(Builtin.zeroCells z.cells (grownCap w (m+n) cap e-(m+n))).toList) e hA;have hzl:(Builtin.zeroCells z.cells (grownCap w (m+n) cap e-(m+n))).toList.length=(grownCap w (m+n) cap e-(m+n))*sz:=by simp[Builtin.zeroCells,hzs]
  rw[bJ] at h2;generalize hzz:(Builtin.zeroCells z.cells (grownCap w (m+n) cap e-(m+n))).toList=zs at h2 hzl;have harr:(vs++news).toArray++Builtin.zeroCells z.cells (grownCap w (m+n) cap e-(m+n))=((vs++news)++zs).toArray:=by rw[←hzz];apply Array.ext';simp
  rw[harr];simp only[aA] at h2;rw[aM] at h2;have h3:=eT _ _ h2;simp only[slR,rowD,bU,dH];rw[aL];refine⟨((vs++news)++zs).length,?_⟩;rw[aA,aB];have hgm:(m+n)*sz≤grownCap w (m+n) cap e*sz:=Nat.mul_le_mul_right _ hg;have hmn:(m+n)*sz=m*sz+n*sz:=Nat.add_mul _ _ _;rw[Nat.sub_mul] at hzl;refine⟨⟨by simp only[List.length_append];omega,by simp only[List.length_append];omega⟩,?_⟩;subst hT;have e:eD (aG true w.heap.size (0+(vs++news).length) zs) (exi fun us':List Value=>star (pure' ((m+n)*sz+us'.length=grownCap w (m+n) cap T*sz)) (aG true w.heap.size (0+(m+n)*sz) us')):=by rw[show 0+(vs++news).length=0+(m+n)*sz by simp only[List.length_append];omega];exact yH _ (uG (by omega))
  rw[show w.drew.heap.size=w.heap.size from rfl] at h3;have h4:=aI (B:=star (aG true w.heap.size (0+(vs++news).length) zs) (star (hdr w.heap.size T ((vs++news)++zs).length) (star (aG false w.heap.size 0 (vs++news)) A))) h3 (by ac_rfl);exact aI (sat.mono h4 (eD.star e (eD.refl _))) (by ac_rfl)
end Go.Sx
