import Derived.Test.YtjikgjdicpggkaaGreatX05
set_option autoImplicit true
set_option relaxedAutoImplicit true
set_option linter.all false
set_option maxRecDepth 100000
set_option maxHeartbeats 4000000
namespace Go.Sx
open Go Go.Proofs
def F7:cJ Pay where
 X:=Nat×List Int×Option (Nat×Option Int×List Int)
 args:=fun(b,l,it)=>[.agg [.hv 0 (.map (some b)),.v (.map none)]]
 pre:=fun(b,l,it)=>[.prd (.mp b (.set l) it)]
 nf:=1
 res:=fun(b,l,it) β=>.hv 1 (.map (some (β 0)))
 ws:=fun(b,l,it) β=>[.cel 0 (.prd (.mp b (.set l) none)),.cel 1 (.prd (.mp (β 0) (.set l) none))]
theorem GX:F7.ok Tryz.prog 285:=by
 refine aJ ⟨false,false⟩ (fun _=>[]) (fun _=>.nil) _ Tryz.func285 Tryz.ntmps285 rfl rfl ?_;intros;rename_i ins hins _ _ _ _ _ _ _ _ _ _ _ _ _ _ _ _ _ _ _ _ _ _ _ _ _ _ _ _ _ _ _ _ _ _ _ _ _ _ _ _ AR hA CM hC _ _ _ _ _ _ hU hI hL _ x _ _ ho hsat hP;obtain⟨b,l,it⟩:=x;have hnd:=nA 0 hsat rfl;have h0:CM .lt 0 2=true:=by rw[hC];rfl
 have h1:CM .lt 1 2=true:=by rw[hC];rfl
 have h2:CM .lt 2 2=false:=by rw[hC];rfl
 have a1:AR .add .i64 0 1=1:=by rw[hA];rfl
 have a2:AR .add .i64 1 1=2:=by rw[hA];rfl
 cbv;repeat' first|exact O5|intro β;cbv|apply O4
 refine hU 3 (by decide+kernel) ?_;cbv;repeat' first|exact O5|intro β;cbv|apply O4
 rename_i bb b2;rename Nat=>r;refine hL _ {x:Option Int×List Int×List Int//l.Perm (x.2.1++x.2.2)} (fun x j=>eO 23 j [(1,.ptr 1 (bb 0) 0),(2,.v (.map none)),(3,.hv 2 (.map (some b2))),(8,.agg [.hv 0 (.map (some b)),.v (.map none)]),(9,.lit .i64 0),(13,.ptr 0 r 0)])
  (fun x=>[.prd (.mp b (.set l) (some (r,x.1.1,x.1.2.2))),.raw true (bb 0) 252 [.hv 0 (.map (some b)),.v (.map none)],.prd (.mp b2 (.set x.1.2.1) none)]) (fun x=>x.1.2.2.length) ⟨(none,[],l),List.Perm.refl _⟩ [(0,0),(1,0),(2,0)] _ _ (by decide+kernel) ⟨rfl,rfl,rfl,⟨rfl,⟨rfl,rfl,rfl,rfl⟩,rfl,trivial⟩⟩ ?_
 rintro⟨⟨cur,d,lf⟩,hp⟩ j LP hsat2 hLP hX hR;change l.Perm (d++lf) at hp;cbv;refine⟨fun h0=>?_,fun k lf' y hq=>?_⟩
 ·cbv;apply hX;cbv;repeat' first|exact O5|intro β;cbv|apply O4
  refine hU 1 (by decide+kernel) ?_;cbv;repeat' first|exact O5|intro β;cbv|apply O4
  subst h0;exact hP (fun _=>b2) [(0,2),(2,4)] _ _ rfl ⟨trivial,rfl,rfl,⟨dR _ _ _,vG b2 d l none (by simpa using hp.symm),trivial⟩⟩
 ·have hk:k∉d:=by
   have h1:(d++lf).Nodup:=hp.nodup hnd;have h2:k∈lf:=hq.mem_iff.2 (List.mem_cons_self ..);intro h3;exact(List.nodup_append.1 h1).2.2 k h3 k h2 rfl
  have hi:ins k d=d++[k]:=by
   rw[hins];have:d.contains k=false:=by simpa using hk
   simp only[this];rfl
  cbv;rw[hi]
  exact hLP ⟨(some k,d++[k],lf'),by
   show l.Perm (d++[k]++lf');rw[List.append_assoc]
   exact hp.trans (List.Perm.append_left d hq)⟩ [(0,0),(1,0),(2,0)] _ (by show lf'.length<lf.length;rw[hq.length_eq];simp) ⟨rfl,rfl,rfl,⟨rfl,⟨rfl,rfl,rfl,rfl⟩,rfl,trivial⟩⟩
def m285 (args:List SV):SM Pay (F7.X×List Nat):=match args with
 |[.agg [.hv h _,_]]=>.rdC h fun c=>match c with
  |.prd (.mp b (.set l) it)=>.ret ((b,l,it),[h])|_=>.fail
 |_=>.fail
theorem x285:cI 285:=⟨_,Tryz.func285,rfl,by decide⟩
def r285:aN:=⟨285,1,true,F7.app m285,F7.app_ok GX m285,fun h=>by cases h⟩
def difC (l m:List Int):Nat:=(l.filter fun x=>!m.contains x).length
theorem gY (d m:List Int) (k:Int):difC (d++[k]) m=difC d m+if m.contains k then 0 else 1:=by unfold difC;rw[List.filter_append,List.length_append];simp only[List.filter_cons,List.filter_nil];cases h:m.contains k<;>rfl
theorem sA {d e:List Int} (m:List Int) (h:d.Perm e):difC d m=difC e m:=(h.filter _).length_eq
theorem tD (d m:List Int):difC d m≤d.length:=List.length_filter_le _ _
inductive s5 (l m:List Int) (n:Nat):Prop where
 |mk (h:difC l m+difC m l=n) (h1:l.length≤1000) (h2:m.length≤1000)
def KH:cJ Pay where
 X:=(Nat×List Int×Option (Nat×Option Int×List Int))×(Nat×List Int×Option (Nat×Option Int×List Int))×Nat
 args:=fun((b,l,it),(c,m,iu),n)=>[.hv 0 (.map (some b)),.hv 1 (.map (some c))]
 pre:=fun((b,l,it),(c,m,iu),n)=>[.prd (.mp b (.set l) it),.prd (.mp c (.set m) iu)]
 obl:=fun((b,l,it),(c,m,iu),n)=>s5 l m n
 res:=fun((b,l,it),(c,m,iu),n) β=>.i .i64 (Int.ofNat n)
 ws:=fun((b,l,it),(c,m,iu),n) β=>[.cel 0 (.prd (.mp b (.set l) none)),.cel 1 (.prd (.mp c (.set m) none))]
theorem GS:KH.ok Tryz.prog 321:=by
 refine aJ ⟨false,false⟩ (fun _=>[]) (fun _=>.nil) _ Tryz.func321 Tryz.ntmps321 rfl rfl ?_;intros;rename_i mem hmem _ _ _ _ _ _ _ _ _ _ _ _ _ _ _ _ _ _ _ _ _ _ _ _ _ _ _ _ _ _ _ _ _ _ _ _ _ _ _ _ _ _ AR hA CM hC _ _ _ _ _ _ hU hI hL _ x _ _ ho hsat hP;obtain⟨⟨b,l,it⟩,⟨c,m,iu⟩,n⟩:=x;obtain⟨hn,hl1,hl2⟩:=ho;change difC l m+difC m l=n at hn;change l.length≤1000 at hl1;change m.length≤1000 at hl2;cbv;repeat' first|exact O5|intro β;cbv|apply O4
 refine hU 3 (by decide+kernel) ?_;have q0:CM .lt 0 (Int.ofNat 2)=true:=by rw[hC];rfl
 have q1:CM .lt 1 (Int.ofNat 2)=true:=by rw[hC];rfl
 have q2:CM .lt 2 (Int.ofNat 2)=false:=by rw[hC];rfl
 cbv;repeat' first|exact O5|intro β;cbv|apply O4
 rw[q0];cbv;repeat' first|exact O5|intro β;cbv|apply O4
 rename_i b1 b2;rename Nat=>r;obtain⟨dc,hdc⟩:∃dc:List Int→Nat,dc=fun d=>difC d m:=⟨_,rfl⟩;obtain⟨de,hde⟩:∃de:List Int→Nat,de=fun d=>difC l m+difC d l:=⟨_,rfl⟩;have e0:dc []=0:=by rw[hdc];rfl
 refine hL _ {x:Option Int×List Int×List Int//l.Perm (x.2.1++x.2.2)} (fun x j=>eO 45 j [(5,.i .i64 (Int.ofNat (dc x.1.2.1))),(6,.hv 2 (.slice (some ⟨b1 0,0,none⟩) 2 2)),(8,.ptr 3 (b2 0) 0),(19,.hv 2 (.slice (some ⟨b1 0,0,none⟩) 2 2)),(20,.i .i64 (Int.ofNat 2)),(21,.lit .i64 0),(27,.ptr 0 r 0)])
  (fun x=>[.prd (.mp b (.set l) (some (r,x.1.1,x.1.2.2))),.prd (.mp c (.set m) iu),.raw true (b1 0) 251 [.hv 0 (.map (some b)),.hv 1 (.map (some c)),.hv 1 (.map (some c)),.hv 0 (.map (some b))],.raw true (b2 0) 251 [.hv 0 (.map (some b)),.hv 1 (.map (some c))]])
  (fun x=>x.1.2.2.length) ⟨(none,[],l),List.Perm.refl _⟩ [(0,0),(1,0),(2,0),(3,0)] _ _ (by decide+kernel) ⟨?_,rfl,rfl,⟨rfl,rfl,⟨rfl,rfl,rfl,rfl⟩,⟨rfl,rfl,rfl,rfl⟩,trivial⟩⟩ ?_
 ·show SV.dens _=SV.dens (eO 45 _ ((5,.i .i64 (Int.ofNat (dc [])))::_));rw[e0];rfl
 rintro⟨⟨cur,d,lf⟩,hp⟩ j LP hsat2 hLP hX hR;change l.Perm (d++lf) at hp;have hdl:difC d m≤1000:=by have h1:=tD d m;have h2:=hp.length_eq;simp at h2;omega
 cbv;refine⟨fun h0=>?_,fun k lf' y hq=>?_⟩
 ·subst h0;cbv;apply hX;cbv;repeat' first|exact O5|intro β;cbv|apply O4
  rw[q1];cbv;repeat' first|exact O5|intro β;cbv|apply O4
  rename_i b3;rename Nat=>r2;have e3:dc d=de []:=by rw[hdc,hde];show difC d m=difC l m+0;exact sA m (by simpa using hp.symm)
  refine hL _ {x:Option Int×List Int×List Int//m.Perm (x.2.1++x.2.2)} (fun x j=>eO 45 j [(5,.i .i64 (Int.ofNat (de x.1.2.1))),(6,.hv 2 (.slice (some ⟨b1 0,0,none⟩) 2 2)),(8,.ptr 3 (b3 0) 0),(19,.hv 2 (.slice (some ⟨b1 0,0,none⟩) 2 2)),(20,.i .i64 (Int.ofNat 2)),(21,.lit .i64 1),(27,.ptr 1 r2 0)])
   (fun x=>[.prd (.mp b (.set l) none),.prd (.mp c (.set m) (some (r2,x.1.1,x.1.2.2))),.raw true (b1 0) 251 [.hv 0 (.map (some b)),.hv 1 (.map (some c)),.hv 1 (.map (some c)),.hv 0 (.map (some b))],.raw true (b3 0) 251 [.hv 1 (.map (some c)),.hv 0 (.map (some b))]])
   (fun x=>x.1.2.2.length) ⟨(none,[],m),List.Perm.refl _⟩ [(0,2),(1,0),(2,0),(4,0)] _ _ (by decide+kernel) ⟨?_,rfl,rfl,⟨dR _ _ _,rfl,⟨rfl,rfl,rfl,rfl⟩,⟨rfl,rfl,rfl,rfl⟩,trivial⟩⟩ ?_
  ·show SV.dens (_::_::_::_::_:: .i .i64 (Int.ofNat (dc d))::_)=SV.dens (eO 45 _ ((5,.i .i64 (Int.ofNat (de [])))::_));rw[e3];rfl
  rintro⟨⟨cur2,d2,lf2⟩,hp2⟩ j LP hsat3 hLP hX hR;change m.Perm (d2++lf2) at hp2;have hdl2:difC l m+difC d2 l≤2000:=by have h1:=tD d2 l;have h3:=tD l m;have h2:=hp2.length_eq;simp at h2;omega
  cbv;refine⟨fun h0=>?_,fun k lf' y hq=>?_⟩
  ·subst h0;cbv;apply hX;cbv;repeat' first|exact O5|intro β;cbv|apply O4
   rw[q2];cbv;repeat' first|exact O5|intro β;cbv|apply O4
   have e4:de d2=n:=by rw[hde,←hn];show difC l m+difC d2 l=_;rw[sA l (show d2.Perm m by simpa using hp2.symm)]
   exact hP (fun _=>0) [(0,0),(1,3)] _ _ rfl ⟨trivial,congrArg (fun z=>Value.int .i64 (Int.ofNat z)) e4,rfl,⟨rfl,dR _ _ _,trivial⟩⟩
  ·have fin:∀(σ':St Pay) (plan:iZ),AD plan σ' (eO 45 (bE σ'.tmps) [(5,.i .i64 (Int.ofNat (de (d2++[k])))),(6,.hv 2 (.slice (some ⟨b1 0,0,none⟩) 2 2)),(8,.ptr 3 (b3 0) 0),(19,.hv 2 (.slice (some ⟨b1 0,0,none⟩) 2 2)),(20,.i .i64 (Int.ofNat 2)),(21,.lit .i64 1),(27,.ptr 1 r2 0)])
     [.prd (.mp b (.set l) none),.prd (.mp c (.set m) (some (r2,some k,lf'))),.raw true (b1 0) 251 [.hv 0 (.map (some b)),.hv 1 (.map (some c)),.hv 1 (.map (some c)),.hv 0 (.map (some b))],.raw true (b3 0) 251 [.hv 1 (.map (some c)),.hv 0 (.map (some b))]]→LP .normal σ':=by
    intro σ' plan h
    exact hLP ⟨(some k,d2++[k],lf'),by
     show m.Perm (d2++[k]++lf');rw[List.append_assoc]
     exact hp2.trans (List.Perm.append_left d2 hq)⟩ plan σ' (by show lf'.length<lf2.length;rw[hq.length_eq];simp) h
   cases hm:mem k l with
   |true=>
    have e1:de (d2++[k])=de d2:=by
     have hm':l.contains k=true:=by rw[hmem] at hm;exact hm
     rw[hde];simp only[gY,hm'];rfl
    cbv;repeat' first|exact O5|intro β;cbv|apply O4
    rw[hm];cbv;repeat' first|exact O5|intro β;cbv|apply O4
    refine fin _ [(0,0),(1,0),(2,0),(3,0)] ⟨?_,rfl,rfl,⟨rfl,rfl,⟨rfl,rfl,rfl,rfl⟩,⟨rfl,rfl,rfl,rfl⟩,trivial⟩⟩;cbv;rw[e1]
   |false=>
    have e1:AR .add .i64 (Int.ofNat (de d2)) 1=Int.ofNat (de (d2++[k])):=by
     have e2:de (d2++[k])=de d2+1:=by
      have hm':l.contains k=false:=by rw[hmem] at hm;exact hm
      rw[hde];simp only[gY,hm'];rfl
     rw[e2,hA];exact fU (by rw[hde];show difC l m+difC d2 l<_;omega)
    cbv;repeat' first|exact O5|intro β;cbv|apply O4
    rw[hm];cbv;repeat' first|exact O5|intro β;cbv|apply O4
    refine fin _ [(0,0),(1,0),(2,0),(3,0)] ⟨?_,rfl,rfl,⟨rfl,rfl,⟨rfl,rfl,rfl,rfl⟩,⟨rfl,rfl,rfl,rfl⟩,trivial⟩⟩;cbv;rw[e1]
 ·have fin:∀(σ':St Pay) (plan:iZ),AD plan σ' (eO 45 (bE σ'.tmps) [(5,.i .i64 (Int.ofNat (dc (d++[k])))),(6,.hv 2 (.slice (some ⟨b1 0,0,none⟩) 2 2)),(8,.ptr 3 (b2 0) 0),(19,.hv 2 (.slice (some ⟨b1 0,0,none⟩) 2 2)),(20,.i .i64 (Int.ofNat 2)),(21,.lit .i64 0),(27,.ptr 0 r 0)])
    [.prd (.mp b (.set l) (some (r,some k,lf'))),.prd (.mp c (.set m) iu),.raw true (b1 0) 251 [.hv 0 (.map (some b)),.hv 1 (.map (some c)),.hv 1 (.map (some c)),.hv 0 (.map (some b))],.raw true (b2 0) 251 [.hv 0 (.map (some b)),.hv 1 (.map (some c))]]→LP .normal σ':=by
   intro σ' plan h
   exact hLP ⟨(some k,d++[k],lf'),by
    show l.Perm (d++[k]++lf');rw[List.append_assoc]
    exact hp.trans (List.Perm.append_left d hq)⟩ plan σ' (by show lf'.length<lf.length;rw[hq.length_eq];simp) h
  cases hm:mem k m with
  |true=>
   have e1:dc (d++[k])=dc d:=by
    have hm':m.contains k=true:=by rw[hmem] at hm;exact hm
    rw[hdc];simp only[gY,hm'];rfl
   cbv;repeat' first|exact O5|intro β;cbv|apply O4
   rw[hm];cbv;repeat' first|exact O5|intro β;cbv|apply O4
   refine fin _ [(0,0),(1,0),(2,0),(3,0)] ⟨?_,rfl,rfl,⟨rfl,rfl,⟨rfl,rfl,rfl,rfl⟩,⟨rfl,rfl,rfl,rfl⟩,trivial⟩⟩;cbv;rw[e1]
  |false=>
   have e1:AR .add .i64 (Int.ofNat (dc d)) 1=Int.ofNat (dc (d++[k])):=by
    have e2:dc (d++[k])=dc d+1:=by
     have hm':m.contains k=false:=by rw[hmem] at hm;exact hm
     rw[hdc];simp only[gY,hm'];rfl
    rw[e2,hA];exact fU (by rw[hdc];show difC d m<_;omega)
   cbv;repeat' first|exact O5|intro β;cbv|apply O4
   rw[hm];cbv;repeat' first|exact O5|intro β;cbv|apply O4
   refine fin _ [(0,0),(1,0),(2,0),(3,0)] ⟨?_,rfl,rfl,⟨rfl,rfl,⟨rfl,rfl,rfl,rfl⟩,⟨rfl,rfl,rfl,rfl⟩,trivial⟩⟩;cbv;rw[e1]
def kG (p:List Int×List Int):Nat:=difC p.1 p.2+difC p.2 p.1
def m321 (TX:TF) (args:List SV):SM Pay (KH.X×List Nat):=match args with
 |[.hv h _,.hv q _]=>.rdC h fun c=>.rdC q fun d=>match c,d with
  |.prd (.mp b (.set l) it),.prd (.mp c (.set m) iu)=>.ret (((b,l,it),(c,m,iu),TX.ap kG (l,m)),[h,q])|_,_=>.fail
 |_=>.fail
theorem s5.self {TX:TF} (h:TX=tfStd) {l m:List Int} (h1:l.length≤1000) (h2:m.length≤1000):s5 l m (TX.ap kG (l,m)):=by subst h;exact⟨rfl,h1,h2⟩
theorem L5:cI 321:=⟨_,Tryz.func321,rfl,by decide⟩
def NP (TX:TF):aN:=⟨321,0,false,KH.app (m321 TX),KH.app_ok GS (m321 TX),fun _ args base β β'=>rfl⟩
def lH (u:Nat→Value) (f:Bool):List SV:=[.v (u 0),.v (u 1),.v (u 2),.v (u 3),.v (u 4),.v (u 5),.v (u 6),.v (u 7),.bl f]
def PrOK (L:List Int) (x:Int×Nat×Option (List SV)):Prop:=∃u:Nat→Value,x.2.2=some (lH u (decide (x.1∈L)))∧∀i,(u i).oneCell'=true
structure TrkOK (V L:List Int) (P:MQ):Prop where
 keys:∀k,k∈keysq P↔k∈V∨k∈L
 disj:∀k,k∈V→k∈L→False
 cl:∀x∈P,PrOK L x
abbrev IT:=Option (Nat×Option Int×List Int)
abbrev LM:=Option (Nat×List Int×IT)
def LM.l:LM→List Int
 |none=>[]|some (_,l,_)=>l
theorem TrkOK.get {V L:List Int} {P:MQ} (h:TrkOK V L P) {l1 l2:MQ} {k:Int} {blk:Nat} {cs:List SV} (e:P=l1++(k,blk,some cs)::l2):∃u,cs=lH u (decide (k∈L)):=by obtain⟨u,h1,_⟩:=h.cl (k,blk,some cs) (by rw[e];simp);exact⟨u,by simpa using h1⟩
theorem TrkOK.noOpen {V L:List Int} {P:MQ} (h:TrkOK V L P) {l1 l2:MQ} {k:Int} {blk:Nat} (e:P=l1++(k,blk,none)::l2):False:=by obtain⟨u,h1,_⟩:=h.cl (k,blk,none) (by rw[e];simp);cases h1
theorem TrkOK.has {V L:List Int} {P:MQ} (h:TrkOK V L P) {k:Int} (hk:k∈V∨k∈L) (hn:∀x∈P,x.1≠k):False:=by obtain⟨l1,blk,c,l2,e⟩:=kR ((h.keys k).2 hk);exact hn (k,blk,c) (by rw[e];simp) rfl
def J7:cJ Pay where
 X:=(Nat×List Int×IT)×LM×(Nat×MQ×IT)
 args:=fun((b,V,it),L,(q,P,iu))=>match L with
  |none=>[.agg [.hv 0 (.map (some b)),.v (.map none),.bl false,.v (.map none),.v (.map none)],.hv 1 (.map (some q))]|some (c,l,iv)=>[.agg [.hv 0 (.map (some b)),.v (.map none),.bl false,.hv 2 (.map (some c)),.v (.map none)],.hv 1 (.map (some q))]
 pre:=fun((b,V,it),L,(q,P,iu))=>match L with
  |none=>[.prd (.mp b (.set V) it),.prd (.mp q (.ptrs 410 P) iu)]|some (c,l,iv)=>[.prd (.mp b (.set V) it),.prd (.mp q (.ptrs 410 P) iu),.prd (.mp c (.set l) iv)]
 obl:=fun((b,V,it),L,(q,P,iu))=>TrkOK V (LM.l L) P
 res:=fun _ _=>.v .nilIface
 ws:=fun((b,V,it),L,(q,P,iu)) β=>match L with
  |none=>[.cel 0 (.prd (.mp b (.set V) none))]|some (c,l,iv)=>[.cel 0 (.prd (.mp b (.set V) none)),.cel 2 (.prd (.mp c (.set l) none))]
theorem FE:J7.ok Tryz.prog 353:=by
 refine aJ ⟨false,false⟩ (fun _=>[r285]) (fun _=>(.cons x285 .nil)) _ Tryz.func353 Tryz.ntmps353 rfl rfl ?_;intros;rename_i mem hmem _ _ _ _ _ _ _ _ _ _ _ _ _ _ _ hop _ _ _ _ _ _ _ _ _ _ _ _ _ _ _ _ _ _ _ _ _ _ _ _ _ _ _ _ CM hC _ _ _ _ _ _ hU hI hL _ x _ _ ho hsat hP;obtain⟨⟨b,V,it⟩,L,⟨q,P,iu⟩⟩:=x;have hT:TrkOK V (LM.l L) P:=ho;have q0:CM .lt 0 (Int.ofNat 3)=true:=by rw[hC];rfl
 have q1:CM .lt 1 (Int.ofNat 3)=true:=by rw[hC];rfl
 have q2:CM .lt 2 (Int.ofNat 3)=true:=by rw[hC];rfl
 have q3:CM .lt 3 (Int.ofNat 3)=false:=by rw[hC];rfl
 rcases L with _|⟨c,l,iv⟩
 ·cbv;repeat' first|exact O5|intro β;cbv|apply O4
  refine hU 4 (by decide+kernel) ?_;cbv;repeat' first|exact O5|intro β;cbv|apply O4
  rw[q0];cbv;repeat' first|exact O5|intro β;cbv|apply O4
  rename_i b1 b2;rename Nat=>r;refine hL _ {x:Option Int×List Int//∀k∈x.2,k∈V} (fun x j=>eO 122 j [(1,.hv 1 (.map (some q))),(2,.ptr 2 (b1 0) 0),(25,.hv 4 (.slice (some ⟨b2 7 0,0,none⟩) 3 3)),(26,.i .i64 (Int.ofNat 3)),(27,.lit .i64 0),(32,.ptr 3 r 0)])
   (fun x=>[.prd (.mp b (.set V) none),.prd (.mp q (.ptrs 410 P) iu),.raw true (b1 0) 254 [.hv 0 (.map (some b)),.v (.map none),.bl false,.v (.map none),.v (.map none)],.prd (.mp (b2 2 0) (.set V) (some (r,x.1.1,x.1.2))),.raw true (b2 7 0) 249 [.hv 3 (.map (some (b2 2 0))),.v (.map none),.v (.map none)]])
   (fun x=>x.1.2.length) ⟨(none,V),fun _ h=>h⟩ [(0,0),(1,0),(2,0),(3,0),(4,0)] _ _ (by decide+kernel) ⟨rfl,rfl,rfl,⟨rfl,rfl,⟨rfl,rfl,rfl,rfl⟩,rfl,⟨rfl,rfl,rfl,rfl⟩,trivial⟩⟩ ?_
  rintro⟨⟨cur,lf⟩,hp⟩ j LP hsat2 hLP hX hR;cbv;refine⟨fun h0=>?_,fun k lf' y hq=>?_⟩
  ·subst h0;cbv;apply hX;cbv;repeat' first|exact O5|intro β;cbv|apply O4
   rw[q1];cbv;repeat' first|exact O5|intro β;cbv|apply O4
   refine hU 1 (by decide+kernel) ?_;cbv;repeat' first|exact O5|intro β;cbv|apply O4
   rw[q2];cbv;repeat' first|exact O5|intro β;cbv|apply O4
   refine hU 1 (by decide+kernel) ?_;cbv;repeat' first|exact O5|intro β;cbv|apply O4
   rw[q3];cbv;repeat' first|exact O5|intro β;cbv|apply O4
   refine hU 1 (by decide+kernel) ?_;cbv;repeat' first|exact O5|intro β;cbv|apply O4
   refine hU 1 (by decide+kernel) ?_;cbv;repeat' first|exact O5|intro β;cbv|apply O4
   refine inl @hI Tryz.func314 Tryz.ntmps314 rfl rfl ?_;cbv;repeat' first|exact O5|intro β;cbv|apply O4
   refine inl @hI Tryz.func316 Tryz.ntmps316 rfl rfl ?_;cbv;repeat' first|exact O5|intro β;cbv|apply O4
   refine inl @hI Tryz.func316 Tryz.ntmps316 rfl rfl ?_;cbv;repeat' first|exact O5|intro β;cbv|apply O4
   exact hP (fun _=>0) [(0,0),(1,0)] _ _ rfl bM
  ·have hkV:k∈V:=hp k (hq.mem_iff.2 (List.mem_cons_self ..));cbv;refine⟨fun l1 blk cs l2 hPe=>?_,fun l1 blk l2 hPe=>(hT.noOpen hPe).elim,fun hn=>(hT.has (.inl hkV) hn).elim⟩;cbv;refine hLP ⟨(some k,lf'),fun z hz=>hp z (hq.mem_iff.2 (List.mem_cons_of_mem _ hz))⟩ [(0,0),(1,7),(2,0),(3,0),(4,0)] _ (by show lf'.length<lf.length;rw[hq.length_eq];simp) ⟨rfl,rfl,rfl,⟨rfl,?_,⟨rfl,rfl,rfl,rfl⟩,rfl,⟨rfl,rfl,rfl,rfl⟩,trivial⟩⟩;rw[hPe,hop];exact bN q 410 l1 l2 k blk cs cs iu rfl
 ·cbv;repeat' first|exact O5|intro β;cbv|apply O4
  refine hU 4 (by decide+kernel) ?_;cbv;repeat' first|exact O5|intro β;cbv|apply O4
  rw[q0];cbv;repeat' first|exact O5|intro β;cbv|apply O4
  rename_i b1 b2;rename Nat=>r;refine hL _ {x:Option Int×List Int//∀k∈x.2,k∈V} (fun x j=>eO 122 j [(1,.hv 1 (.map (some q))),(2,.ptr 3 (b1 0) 0),(25,.hv 5 (.slice (some ⟨b2 7 0,0,none⟩) 3 3)),(26,.i .i64 (Int.ofNat 3)),(27,.lit .i64 0),(32,.ptr 4 r 0)])
   (fun x=>[.prd (.mp b (.set V) none),.prd (.mp q (.ptrs 410 P) iu),.prd (.mp c (.set l) iv),.raw true (b1 0) 254 [.hv 0 (.map (some b)),.v (.map none),.bl false,.hv 2 (.map (some c)),.v (.map none)],.prd (.mp (b2 2 0) (.set V) (some (r,x.1.1,x.1.2))),.raw true (b2 7 0) 249 [.hv 4 (.map (some (b2 2 0))),.hv 2 (.map (some c)),.v (.map none)]])
   (fun x=>x.1.2.length) ⟨(none,V),fun _ h=>h⟩ [(0,0),(1,0),(2,0),(3,0),(4,0),(5,0)] _ _ (by decide+kernel) ⟨rfl,rfl,rfl,⟨rfl,rfl,rfl,⟨rfl,rfl,rfl,rfl⟩,rfl,⟨rfl,rfl,rfl,rfl⟩,trivial⟩⟩ ?_
  rintro⟨⟨cur,lf⟩,hp⟩ j LP hsat2 hLP hX hR;cbv;refine⟨fun h0=>?_,fun k lf' y hq=>?_⟩
  case refine_2=>have hkV:k∈V:=hp k (hq.mem_iff.2 (List.mem_cons_self ..));cbv;refine⟨fun l1 blk cs l2 hPe=>?_,fun l1 blk l2 hPe=>(hT.noOpen hPe).elim,fun hn=>(hT.has (.inl hkV) hn).elim⟩;cbv;refine hLP ⟨(some k,lf'),fun z hz=>hp z (hq.mem_iff.2 (List.mem_cons_of_mem _ hz))⟩ [(0,0),(1,8),(2,0),(3,0),(4,0),(5,0)] _ (by show lf'.length<lf.length;rw[hq.length_eq];simp) ⟨rfl,rfl,rfl,⟨rfl,?_,rfl,⟨rfl,rfl,rfl,rfl⟩,rfl,⟨rfl,rfl,rfl,rfl⟩,trivial⟩⟩;rw[hPe,hop];exact bN q 410 l1 l2 k blk cs cs iu rfl
  subst h0;cbv;apply hX;cbv;repeat' first|exact O5|intro β;cbv|apply O4
  rw[q1];cbv;repeat' first|exact O5|intro β;cbv|apply O4
  rename Nat=>r2;refine hL _ {x:Option Int×List Int//∀k∈x.2,k∈l} (fun x j=>eO 122 j [(1,.hv 1 (.map (some q))),(2,.ptr 3 (b1 0) 0),(25,.hv 5 (.slice (some ⟨b2 7 0,0,none⟩) 3 3)),(26,.i .i64 (Int.ofNat 3)),(27,.lit .i64 1),(32,.ptr 2 r2 0)])
   (fun x=>[.prd (.mp b (.set V) none),.prd (.mp q (.ptrs 410 P) iu),.prd (.mp c (.set l) (some (r2,x.1.1,x.1.2))),.raw true (b1 0) 254 [.hv 0 (.map (some b)),.v (.map none),.bl false,.hv 2 (.map (some c)),.v (.map none)],.free,.raw true (b2 7 0) 249 [.hv 4 (.map (some (b2 2 0))),.hv 2 (.map (some c)),.v (.map none)]])
   (fun x=>x.1.2.length) ⟨(none,l),fun _ h=>h⟩ [(0,0),(1,0),(2,0),(3,0),(0,1),(5,0)] _ _ (by decide+kernel) ⟨rfl,rfl,rfl,⟨rfl,rfl,rfl,⟨rfl,rfl,rfl,rfl⟩,⟨rfl,rfl,rfl,rfl⟩,trivial⟩⟩ ?_
  clear hLP hX hR;rintro⟨⟨cur2,lf2⟩,hp2⟩ j LP hsat3 hLP hX hR;cbv;refine⟨fun h0=>?_,fun k lf' y hq=>?_⟩
  case refine_2=>have hkV:k∈l:=hp2 k (hq.mem_iff.2 (List.mem_cons_self ..));cbv;refine⟨fun l1 blk cs l2 hPe=>?_,fun l1 blk l2 hPe=>(hT.noOpen hPe).elim,fun hn=>(hT.has (.inr hkV) hn).elim⟩;cbv;refine hLP ⟨(some k,lf'),fun z hz=>hp2 z (hq.mem_iff.2 (List.mem_cons_of_mem _ hz))⟩ [(0,0),(1,8),(2,0),(3,0),(0,1),(5,0)] _ (by show lf'.length<lf2.length;rw[hq.length_eq];simp) ⟨rfl,rfl,rfl,⟨rfl,?_,rfl,⟨rfl,rfl,rfl,rfl⟩,⟨rfl,rfl,rfl,rfl⟩,trivial⟩⟩;rw[hPe,hop];exact bN q 410 l1 l2 k blk cs cs iu rfl
  subst h0;cbv;apply hX;cbv;repeat' first|exact O5|intro β;cbv|apply O4
  rw[q2];cbv;repeat' first|exact O5|intro β;cbv|apply O4
  refine hU 1 (by decide+kernel) ?_;cbv;repeat' first|exact O5|intro β;cbv|apply O4
  rw[q3];cbv;repeat' first|exact O5|intro β;cbv|apply O4
  refine hU 1 (by decide+kernel) ?_;cbv;repeat' first|exact O5|intro β;cbv|apply O4
  rename Nat=>r3;refine hL _ {x:Option Int×List Int//∀k∈x.2,k∈l} (fun x j=>eO 122 j [(1,.hv 1 (.map (some q))),(2,.ptr 3 (b1 0) 0),(74,.ptr 2 r3 0)])
   (fun x=>[.prd (.mp b (.set V) none),.prd (.mp q (.ptrs 410 P) iu),.prd (.mp c (.set l) (some (r3,x.1.1,x.1.2))),.raw true (b1 0) 254 [.hv 0 (.map (some b)),.v (.map none),.bl false,.hv 2 (.map (some c)),.v (.map none)]])
   (fun x=>x.1.2.length) ⟨(none,l),fun _ h=>h⟩ [(0,0),(1,0),(2,0),(3,0)] _ _ (by decide+kernel) ⟨rfl,rfl,rfl,⟨rfl,rfl,rfl,⟨rfl,rfl,rfl,rfl⟩,trivial⟩⟩ ?_
  clear hLP hX hR;rintro⟨⟨cur3,lf3⟩,hp3⟩ j LP hsat4 hLP hX hR;cbv;refine⟨fun h0=>?_,fun k lf' y hq=>?_⟩
  case refine_1=>
   subst h0;cbv;apply hX;cbv;repeat' first|exact O5|intro β;cbv|apply O4
   refine inl @hI Tryz.func314 Tryz.ntmps314 rfl rfl ?_;cbv;repeat' first|exact O5|intro β;cbv|apply O4
   refine inl @hI Tryz.func316 Tryz.ntmps316 rfl rfl ?_;cbv;repeat' first|exact O5|intro β;cbv|apply O4
   refine inl @hI Tryz.func316 Tryz.ntmps316 rfl rfl ?_;cbv;repeat' first|exact O5|intro β;cbv|apply O4
   exact hP (fun _=>0) [(0,0),(1,0),(2,4)] _ _ rfl ⟨trivial,rfl,rfl,⟨rfl,rfl,dR _ _ _,trivial⟩⟩
  have hkl:k∈l:=hp3 k (hq.mem_iff.2 (List.mem_cons_self ..));have hm:mem k V=false:=by rw[hmem];have:k∉V:=fun h=>hT.disj k h hkl;simpa using this
  cbv;repeat' first|exact O5|intro β;cbv|apply O4
  refine inl @hI Tryz.func316 Tryz.ntmps316 rfl rfl ?_;cbv;repeat' first|exact O5|intro β;cbv|apply O4
  refine inl @hI Tryz.func317 Tryz.ntmps317 rfl rfl ?_;cbv;repeat' first|exact O5|intro β;cbv|apply O4
  rw[hm];cbv;refine⟨fun l1 blk cs l2 hPe=>?_,fun l1 blk l2 hPe=>(hT.noOpen hPe).elim,fun hn=>(hT.has (.inr hkl) hn).elim⟩;obtain⟨u,hu⟩:=hT.get hPe;have hd:decide (k∈LM.l (some (c,l,iv)))=true:=decide_eq_true hkl;rw[hd] at hu;subst hu;cbv;repeat' first|exact O5|intro β;cbv|apply O4
  refine hLP ⟨(some k,lf'),fun z hz=>hp3 z (hq.mem_iff.2 (List.mem_cons_of_mem _ hz))⟩ [(0,0),(1,10),(2,0),(3,0)] _ (by show lf'.length<lf3.length;rw[hq.length_eq];simp) ⟨rfl,rfl,rfl,⟨rfl,?_,rfl,⟨rfl,rfl,rfl,rfl⟩,trivial⟩⟩;rw[hPe,hop];exact bN q 410 l1 l2 k blk _ _ iu rfl
def m353 (args:List SV):SM Pay (J7.X×List Nat):=match args with
 |[.agg [.hv h _,_,_,x,_],.hv h2 _]=>.rdC h fun c1=>.rdC h2 fun c2=>match c1,c2 with
  |.prd (.mp b (.set V) it),.prd (.mp q (.ptrs _ P) iu)=>match x with
   |.hv h3 _=>.rdC h3 fun c3=>match c3 with
    |.prd (.mp c (.set l) iv)=>.ret (((b,V,it),some (c,l,iv),(q,P,iu)),[h,h2,h3])|_=>.fail
   |_=>.ret (((b,V,it),none,(q,P,iu)),[h,h2])
  |_,_=>.fail
 |_=>.fail
theorem M2:cI 353:=⟨_,Tryz.func353,rfl,by decide⟩
def N3:aN:=⟨353,0,false,J7.app m353,J7.app_ok FE m353,fun _ args base β β'=>rfl⟩
def JM:cJ Pay where
 X:=Int×Int
 args:=fun(n,m)=>[.i .i64 n,.i .u64 m]
 pre:=fun _=>[]
 nf:=1
 res:=fun _ β=>.ptr 0 (β 0) 0
 ws:=fun(n,m) β=>[.cel 0 (.raw true (β 0) 460 [.lit .i64 0,.lit .i64 0,.lit .u64 0,.i .i64 n,.i .u64 m,.v (.slice none 0 0)])]
theorem J0:JM.ok Tryz.prog 293:=by
 refine aJ ⟨false,false⟩ (fun _=>[]) (fun _=>.nil) _ Tryz.func293 Tryz.ntmps293 rfl rfl ?_;intros;rename_i x _ _ _ _ hP;obtain⟨n,m⟩:=x;cbv;repeat' first|exact O5|intro β;cbv|apply O4
 exact hP β [(0,0)] _ _ rfl bM
def m293 (args:List SV):SM Pay (JM.X×List Nat):=match args with
 |[n,m]=>match bG n,bG m with
  |some (_,_,n),some (_,_,m)=>.ret ((n,m),[])|_,_=>.fail
 |_=>.fail
theorem KL:cI 293:=⟨_,Tryz.func293,rfl,by decide⟩
def IH:aN:=⟨293,1,true,JM.app m293,JM.app_ok J0 m293,fun h=>by cases h⟩
def GZ:cJ Pay where
 X:=Nat×List Int×IT
 args:=fun(b,V,it)=>[.agg [.hv 0 (.map (some b)),.v (.map none)]]
 pre:=fun(b,V,it)=>[.prd (.mp b (.set V) it)]
 res:=fun(b,V,it) _=>.hv 0 (.map (some b))
theorem FF:GZ.ok Tryz.prog 317:=by
 refine aJ ⟨false,false⟩ (fun _=>[]) (fun _=>.nil) _ Tryz.func317 Tryz.ntmps317 rfl rfl ?_;intros;rename_i x _ _ _ _ hP;obtain⟨b,V,it⟩:=x;cbv;repeat' first|exact O5|intro β;cbv|apply O4
 exact hP (fun _=>0) [(0,0)] _ _ rfl bM
def m317 (args:List SV):SM Pay (GZ.X×List Nat):=match args with
 |[.agg [.hv h _,_]]=>.rdC h fun c=>match c with
  |.prd (.mp b (.set V) it)=>.ret ((b,V,it),[h])|_=>.fail
 |_=>.fail
theorem OW:cI 317:=⟨_,Tryz.func317,rfl,by decide⟩
def LX:aN:=⟨317,0,false,GZ.app m317,GZ.app_ok FF m317,fun _ args base β β'=>rfl⟩
end Go.Sx
