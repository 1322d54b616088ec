import Derived.Test.YtjikgjdicpggkaaGreatX06
import Derived.Test.YtjikgjdicpggkaaGreatX08
import Derived.Test.YtjikgjdicpggkaaGreatX11
set_option autoImplicit true
set_option relaxedAutoImplicit true
set_option linter.all false
set_option maxRecDepth 100000
set_option maxHeartbeats 4000000
namespace Go.Sx
open Go Go.Proofs
theorem pJ (l:List FV) (i:Nat) (x:FV) (h:l[i]?=some x):nth l i=x:=by
 induction l generalizing i with
 |nil=>simp at h|cons a l ih=>
  cases i with
  |zero=>simp only[List.getElem?_cons_zero,Option.some.injEq] at h;exact h|succ i=>exact ih i (by simpa using h)
def MZ (x:FV):FV:=.fc 274 (.st 348 [x])
def clL (V L:List Int):List FV:=(ccL V L).map MZ
abbrev LL:=Option (Nat×List Int)
def EX (h:Nat):LL→SV
 |none=>.v (.map none)|some (c,_)=>.hv h (.map (some c))
def BT:LL→C
 |none=>.free|some (c,l)=>.prd (.mp c (.set l) none)
abbrev ccP (V L:List Int):Prop:=V≠[]∧V.Nodup∧L.Nodup∧(∀k,k∈V→k∈L→False)∧(∀k∈V,k≠0)∧(∀k∈L,k≠0)∧V.length≤900∧L.length≤900
theorem s277 {b q:Nat} {V L:List Int} {vt:Value} {mi mb li:Int} {sp:Bool} {nn rb off cap n:Nat} {K:SV→List C→Prop}
  (hcc:ccP V L) (hn:n=V.length+L.length)
  (hKK:∀(b' q':Nat) (o:LL) (P':MQ),TrkOK V L P'→(match o with|none=>L=[]|some (_,l)=>l=L)→K (.tup [.agg [.hv 0 (.map (some b')),.v (.map none),.bl false,EX 3 o,.v (.map none)],.hv 1 (.map (some q')),.v .nilIface])
   [.prd (.mp b' (.set V) none),.prd (.mp q' (.ptrs 410 P') none),.free,BT o]) (F:HProp):
  inS Tryz.prog F 277 [.agg [.hv 0 (.map (some b)),.v (.map none),.bl false,.v (.map none),.v (.map none),.hv 1 (.map (some q)),.v vt,.i .i64 mi,.i .u64 mb,.i .u64 li],.sl 2 nn rb off n cap]
   [.prd (.mp b (.set []) none),.prd (.mp q (.ptrs 410 []) none),.prd (.sl sp nn rb off cap (.sl 403 1 n (clL V L)))] K:=by
 obtain⟨FL,hFL⟩:∃FL,FL=clL V L:=⟨_,rfl⟩;obtain⟨TV,hTV⟩:∃TV:Nat→List Int,TV=fun i=>V.take i:=⟨_,rfl⟩;rw[←hFL];obtain⟨hV0,hVn,hLn,hdis,hVz,hLz,hV9,hL9⟩:=hcc;have tvs:∀i id,V[i]?=some id→TV i++[id]=TV (i+1):=by intro i id h;rw[hTV];show V.take i++[id]=V.take (i+1);rw[List.take_add_one,h];rfl
 have tvf:∀i,V.length≤i→TV i=V:=by intro i h;rw[hTV];exact List.take_of_length_le h
 have tvm:∀i k,k∈TV i→k∈V:=by intro i k h;rw[hTV] at h;exact List.mem_of_mem_take h
 have nin:∀(l:List Int) (i:Nat) (id:Int),l.Nodup→l[i]?=some id→id∉l.take i:=by
  intro l i id hn h hm;obtain⟨j,hj,e⟩:=List.mem_take_iff_getElem.1 hm;have hil:i<l.length:=by
   rcases Nat.lt_or_ge i l.length with h2|h2
   ·exact h2
   ·rw[List.getElem?_eq_none h2] at h;cases h
  have e2:l[i]=id:=by rw[List.getElem?_eq_getElem hil] at h;exact Option.some.inj h
  have h3:=(List.pairwise_iff_getElem.1 hn) j i (by omega) hil (by omega);exact h3 (by rw[e,e2])
 refine aF ⟨false,false⟩ (fun _=>[]) (fun _=>.nil) Tryz.func277 Tryz.ntmps277 rfl rfl ?_;intros;rename_i NF hNF _ _ _ _ _ _ _ _ AR hA CM hC _ _ _ _ _ _ hU hI hL _ hN hsat hP;cbv;repeat' first|exact O5|intro β;cbv|apply O4
 rename Nat→Nat=>g;refine hL _ {x:Nat×Nat×LL×MQ×Nat//x.2.2.2.2≤n∧TrkOK (TV x.2.2.2.2) (L.take (x.2.2.2.2-V.length)) x.2.2.2.1∧match x.2.2.1 with|none=>x.2.2.2.2≤V.length|some (_,l)=>l=L.take (x.2.2.2.2-V.length)∧V.length<x.2.2.2.2}
  (fun x j=>eO 42 j [(2,.ptr 3 (β 0) 0),(4,.ptr 4 (g 0) 0),(5,.v (.map none)),(6,.v .nilIface),(12,.sl 2 nn rb off n cap),(13,.i .i64 n),(14,.i .i64 x.1.2.2.2.2)])
  (fun x=>[.prd (.mp x.1.1 (.set (TV x.1.2.2.2.2)) none),.prd (.mp x.1.2.1 (.ptrs 410 x.1.2.2.2.1) none),.prd (.sl sp nn rb off cap (.sl 403 1 n FL)),
   .raw true (β 0) 364 [.hv 0 (.map (some x.1.1)),.v (.map none),.bl false,EX 5 x.1.2.2.1,.v (.map none),.hv 1 (.map (some x.1.2.1)),.v vt,.i .i64 mi,.i .u64 mb,.i .u64 li],
   .raw true (g 0) 254 [.v (.map none),.v (.map none),.bl false,.v (.map none),.v (.map none)],BT x.1.2.2.1])
  (fun x=>n-x.1.2.2.2.2) ⟨(b,q,none,[],0),Nat.zero_le _,⟨fun k=>by simp[keysq,hTV],fun k h=>by simp[hTV] at h,fun x h=>by cases h⟩,Nat.zero_le _⟩ [(0,0),(1,0),(2,0),(3,0),(4,0),(0,1)] _ _ (by decide+kernel) ?_ ?_
 ·have:TV 0=[]:=by rw[hTV];simp
  refine⟨rfl,rfl,rfl,⟨?_,rfl,rfl,⟨rfl,rfl,rfl,rfl⟩,⟨rfl,rfl,rfl,rfl⟩,trivial⟩⟩;show Pay.mp b (.set []) none=Pay.mp b (.set (TV 0)) none;rw[this]
 rintro⟨⟨b',q',o,P,i⟩,hi,hT,ho⟩ j LP hsat2 hLP hX hR;change i≤n at hi;change TrkOK (TV i) (L.take (i-V.length)) P at hT
 by_cases h:i<n
 ·have h5:CM .lt (Int.ofNat i) (Int.ofNat n)=true:=by rw[hC];simp[cmStd,h]
  have h6:CM .le 0 (Int.ofNat i)=true:=by rw[hC];simp[cmStd]
  have hadd:AR .add .i64 (Int.ofNat i) 1=Int.ofNat (i+1):=by rw[hA];exact fU (by omega)
  rcases o with _|⟨c,l⟩
  ·by_cases hv:i<V.length
   ·obtain⟨id,hid⟩:∃id,V[i]?=some id:=⟨V[i],by simp⟩;have hF:NF FL i=.fc 274 (.st 348 [.st 388 [.oi 205 .i32 (some 0),.oi 22 .u64 (some id)]]):=by
     rw[hNF,hFL];exact pJ _ _ _ (by simp only[clL,ccL,List.getElem?_map,List.getElem?_append,List.length_map,hv,if_true,hid];rfl)
    cbv;repeat' first|exact O5|intro β;cbv|apply O4
    rw[h5];cbv;repeat' first|exact O5|intro β;cbv|apply O4
    rw[hF];cbv;repeat' first|exact O5|intro β;cbv|apply O4
    refine inl @hI Tryz.func274 Tryz.ntmps274 rfl rfl ?_;cbv;repeat' first|exact O5|intro β;cbv|apply O4
    rename_i w4 w3 w2 w1;rename Nat→Nat=>w0;have hT1:TrkOK (TV i) [] P:=by
     have:L.take (i-V.length)=[]:=by rw[show i-V.length=0 by omega];simp
     rw[this] at hT;exact hT
    have hid1:id∉TV i:=by rw[hTV];exact nin V i id hVn hid
    have hid2:id≠0:=hVz id (List.mem_of_getElem? hid);have hlen:(TV i).length≤900:=by rw[hTV];show (V.take i).length≤900;rw[List.length_take];omega
    refine aD hN [0,1,14,15] (by decide) rfl ?_ ?_ (fun F'=>s269V (b:=b') (q:=q') (V:=TV i) (P:=P) (it:=none) (iu:=none) (vt:=vt) (mi:=mi) (mb:=mb) (li:=li) (id:=id) (r:=w0 0) (b1:=w1 0) hT1 hid1 hid2 hlen (fun b2 q2 P2 hT2=>?_) F')
    ·rfl
    ·exact⟨rfl,rfl,rfl,⟨rfl,rfl,rfl,rfl⟩,trivial⟩
    have e1:=tvs i id hid;rw[e1] at hT2⊢;cbv;repeat' first|exact O5|intro β;cbv|apply O4
    rw[hadd]
    refine hLP ⟨(b2,q2,none,P2,i+1),by show i+1≤n;omega,by
     have:L.take (i+1-V.length)=[]:=by rw[show i+1-V.length=0 by omega];simp
     show TrkOK (TV (i+1)) (L.take (i+1-V.length)) P2
     rw[this];exact hT2,by show i+1≤V.length;omega⟩ [(0,0),(1,0),(2,0),(3,0),(4,0),(0,1)] _ (by show n-(i+1)<n-i;omega) ⟨rfl,rfl,rfl,⟨?_,rfl,rfl,⟨rfl,rfl,rfl,rfl⟩,⟨rfl,rfl,rfl,rfl⟩,trivial⟩⟩
    rfl
   ·have ho2:i≤V.length:=ho;have hiV:i=V.length:=by omega
    obtain⟨id,hid⟩:∃id,L[i-V.length]?=some id:=⟨L[i-V.length],by simp⟩;have hF:NF FL i=.fc 274 (.st 348 [.st 388 [.oi 205 .i32 (some 3),.oi 22 .u64 (some id)]]):=by rw[hNF,hFL];exact pJ _ _ _ (by simp only[clL,ccL,List.getElem?_map,List.getElem?_append,List.length_map,hv,if_false,hid];rfl)
    have hTV2:TV i=V:=tvf i (by omega);rw[hTV2] at hT;cbv;repeat' first|exact O5|intro β;cbv|apply O4
    rw[h5];cbv;repeat' first|exact O5|intro β;cbv|apply O4
    rw[hF];cbv;repeat' first|exact O5|intro β;cbv|apply O4
    refine inl @hI Tryz.func274 Tryz.ntmps274 rfl rfl ?_;cbv;repeat' first|exact O5|intro β;cbv|apply O4
    rename_i w4 w3 w2 w1;rename Nat→Nat=>w0;have hT1:TrkOK V [] P:=by
     have:L.take (i-V.length)=[]:=by rw[show i-V.length=0 by omega];simp
     rw[this] at hT;exact hT
    have hidL:=List.mem_of_getElem? hid;have hid1:id∉V:=fun h=>hdis id h hidL;have hid2:id≠0:=hLz id hidL;refine aD hN [0,1,14,15] (by decide) rfl ?_ ?_ (fun F'=>NM (b:=b') (q:=q') (V:=V) (P:=P) (it:=none) (iu:=none) (vt:=vt) (mi:=mi) (mb:=mb) (li:=li) (id:=id) (r:=w0 0) (b1:=w1 0) hT1 hid1 hid2 hV9 hV0 (fun b2 q2 c2 P2 hT2=>?_) F')
    ·rfl
    ·exact⟨congrArg (fun z=>Pay.mp b' (.set z) none) hTV2,rfl,rfl,⟨rfl,rfl,rfl,rfl⟩,trivial⟩
    have hTV3:TV (i+1)=V:=tvf (i+1) (by omega);have hLt:L.take (i+1-V.length)=[id]:=by rw[show i-V.length=0 by omega] at hid;rw[show i+1-V.length=0+1 by omega,List.take_add_one,hid];simp
    cbv;repeat' first|exact O5|intro β;cbv|apply O4
    rw[hadd]
    refine hLP ⟨(b2,q2,some (c2,[id]),P2,i+1),by show i+1≤n;omega,by
     show TrkOK (TV (i+1)) (L.take (i+1-V.length)) P2
     rw[hLt,hTV3];exact hT2,⟨hLt.symm,by show V.length<i+1;omega⟩⟩ [(0,0),(1,0),(2,0),(3,0),(4,0),(15,0)] _ (by show n-(i+1)<n-i;omega) ⟨rfl,rfl,rfl,⟨?_,rfl,rfl,⟨rfl,rfl,rfl,rfl⟩,⟨rfl,rfl,rfl,rfl⟩,rfl,trivial⟩⟩
    exact congrArg (fun z=>Pay.mp b2 (.set z) none) hTV3.symm
  ·obtain⟨ho1,ho2⟩:=ho;change l=L.take (i-V.length) at ho1;change V.length<i at ho2;obtain⟨id,hid⟩:∃id,L[i-V.length]?=some id:=⟨L[i-V.length],by simp⟩;have hF:NF FL i=.fc 274 (.st 348 [.st 388 [.oi 205 .i32 (some 3),.oi 22 .u64 (some id)]]):=by
    rw[hNF,hFL];have hv:¬i<V.length:=by omega
    exact pJ _ _ _ (by simp only[clL,ccL,List.getElem?_map,List.getElem?_append,List.length_map,hv,if_false,hid];rfl)
   have hTV2:TV i=V:=tvf i (by omega);rw[hTV2,←ho1] at hT;cbv;repeat' first|exact O5|intro β;cbv|apply O4
   rw[h5];cbv;repeat' first|exact O5|intro β;cbv|apply O4
   rw[hF];cbv;repeat' first|exact O5|intro β;cbv|apply O4
   refine inl @hI Tryz.func274 Tryz.ntmps274 rfl rfl ?_;cbv;repeat' first|exact O5|intro β;cbv|apply O4
   rename_i w4 w3 w2 w1;rename Nat→Nat=>w0;have hidL:=List.mem_of_getElem? hid;have hid1:id∉V:=fun h=>hdis id h hidL;have hid2:id≠0:=hLz id hidL;have hid3:id∉l:=by rw[ho1];exact nin L _ id hLn hid
   refine aD hN [0,1,14,15,5] (by decide) rfl ?_ ?_ (fun F'=>LU (b:=b') (q:=q') (V:=V) (P:=P) (it:=none) (iu:=none) (iv:=none) (vt:=vt) (mi:=mi) (mb:=mb) (li:=li) (id:=id) (r:=w0 0) (b1:=w1 0) (c:=c) (l:=l) hT hid1 hid3 hid2 hV9 hV0 (fun b2 q2 c2 P2 hT2=>?_) F')
   ·rfl
   ·exact⟨congrArg (fun z=>Pay.mp b' (.set z) none) hTV2,rfl,rfl,⟨rfl,rfl,rfl,rfl⟩,rfl,trivial⟩
   have hTV3:TV (i+1)=V:=tvf (i+1) (by omega);have hLt:L.take (i+1-V.length)=l++[id]:=by rw[show i+1-V.length=(i-V.length)+1 by omega,List.take_add_one,hid,ho1];rfl
   obtain⟨l2,hl2⟩:∃l2,l2=l++[id]:=⟨_,rfl⟩;rw[←hl2] at hT2⊢;cbv;repeat' first|exact O5|intro β;cbv|apply O4
   rw[hadd]
   refine hLP ⟨(b2,q2,some (c2,l2),P2,i+1),by show i+1≤n;omega,by
    show TrkOK (TV (i+1)) (L.take (i+1-V.length)) P2
    rw[hLt,hTV3,←hl2];exact hT2,⟨hl2.trans hLt.symm,by show V.length<i+1;omega⟩⟩ [(0,0),(1,0),(2,0),(3,0),(4,0),(5,0)] _ (by show n-(i+1)<n-i;omega) ⟨rfl,rfl,rfl,⟨?_,rfl,rfl,⟨rfl,rfl,rfl,rfl⟩,⟨rfl,rfl,rfl,rfl⟩,?_,trivial⟩⟩
   rotate_left
   ·exact congrArg (fun z=>Pay.mp c2 (.set z) none) rfl
   exact congrArg (fun z=>Pay.mp b2 (.set z) none) hTV3.symm
 have h5:CM .lt (Int.ofNat i) (Int.ofNat n)=false:=by rw[hC];simp[cmStd,h]
 have hin:i=n:=by omega
 subst hin;have hTV2:TV i=V:=tvf i (by omega);rw[hTV2,show L.take (i-V.length)=L from List.take_of_length_le (by omega)] at hT;rcases o with _|⟨c,l⟩
 ·cbv;repeat' first|exact O5|intro β;cbv|apply O4
  rw[h5];cbv;repeat' first|exact O5|intro β;cbv|apply O4
  apply hX;cbv;repeat' first|exact O5|intro β;cbv|apply O4
  have hk:=hKK b' q' none P hT (by
   have h2:i≤V.length:=ho
   exact List.length_eq_zero_iff.1 (by omega))
  refine hP [(0,0),(1,0),(2,1),(2,1)] _ _ _ _ ?_ rfl ?_ hk
  ·rfl
  ·exact⟨congrArg (fun z=>Pay.mp b' (.set z) none) hTV2,rfl,trivial⟩
 ·obtain⟨ho1,ho2⟩:=ho;have ho1:l=L:=by rw[show L.take (i-V.length)=L from List.take_of_length_le (by omega)] at ho1;exact ho1
  cbv;repeat' first|exact O5|intro β;cbv|apply O4
  rw[h5];cbv;repeat' first|exact O5|intro β;cbv|apply O4
  apply hX;cbv;repeat' first|exact O5|intro β;cbv|apply O4
  have hk:=hKK b' q' (some (c,l)) P hT ho1;refine hP [(0,0),(1,0),(2,1),(5,0)] _ _ _ _ ?_ rfl ?_ hk
  ·rfl
  ·exact⟨congrArg (fun z=>Pay.mp b' (.set z) none) hTV2,rfl,rfl,trivial⟩
theorem s224 {b q b0:Nat} {V L:List Int} {vt:Value} {mi mb li:Int} {a:Option Bool} {nv nl:Nat} {K:SV→List C→Prop}
  (hcc:ccP V L) (hnv:nv=V.length) (hnl:nl=L.length)
  (hKK:∀(b' q':Nat) (o:LL) (P':MQ),TrkOK V L P'→(match o with|none=>L=[]|some (_,l)=>l=L)→K (.tup [.agg [.hv 0 (.map (some b')),.v (.map none),.bl false,EX 3 o,.v (.map none)],.hv 1 (.map (some q')),.v .nilIface])
   [.prd (.mp b' (.set V) none),.prd (.mp q' (.ptrs 410 P') none),.prd (.st b0 229 (sP (nv,V) (nl,L) (0,[]) (0,[]) a)),BT o]) (F:HProp):
  inS Tryz.prog F 224 [.agg [.hv 0 (.map (some b)),.v (.map none),.bl false,.v (.map none),.v (.map none),.hv 1 (.map (some q)),.v vt,.i .i64 mi,.i .u64 mb,.i .u64 li],.ptr 2 b0 0]
   [.prd (.mp b (.set []) none),.prd (.mp q (.ptrs 410 []) none),.prd (.st b0 229 (sP (nv,V) (nl,L) (0,[]) (0,[]) a))] K:=by
 have hcc2:=hcc;obtain⟨hV0,hVn,hLn,hdis,hVz,hLz,hV9,hL9⟩:=hcc2;obtain⟨FL,hFL⟩:∃FL,FL=ccL V L:=⟨_,rfl⟩;obtain⟨dl,hdl⟩:∃dl:Nat→List FV,dl=fun j=>(FL.take j).map MZ:=⟨_,rfl⟩;refine aF ⟨false,false⟩ (fun TX=>[r273 TX]) (fun _=>(.cons x273 .nil)) Tryz.func224 Tryz.ntmps224 rfl rfl ?_;intros;rename_i jf hjf _ _ _ _ _ hNF _ _ _ _ TX hTX na hna AR hA CM hC _ _ _ _ _ _ hU hI hL _ hN hsat hP;have c0:CM .eq 0 0=true:=by rw[hC];rfl
 have hob:OK nv V nl L (TX.ap AW (nv,nl)) (TX.ap CT (V,L)):=⟨by rw[hTX];rfl,by rw[hTX];rfl,hnv.symm,hnl.symm,by omega,by omega⟩;obtain⟨tz,tl,tt,to,ap⟩:=TX;have h1:ap AW (nv,nl)=nv+nl:=congrArg (fun t:TF=>t.ap AW (nv,nl)) hTX;have h2:ap CT (V,L)=FL:=by rw[hFL];exact congrArg (fun t:TF=>t.ap CT (V,L)) hTX
 change OK nv V nl L (ap AW (nv,nl)) (ap CT (V,L)) at hob;obtain⟨n,hn⟩:∃n,ap AW (nv,nl)=n:=⟨_,rfl⟩;rw[hn] at h1;cbv;repeat' first|exact O5|intro β;cbv|apply O4
 rw[hn,h2];rename_i p6 p5 p4 p3 p2 p1;rename Nat→Nat=>p0;refine hL _ {x:Nat×Nat×Nat×Nat×Nat//x.1≤n}
  (fun x j=>eO 58 j [(2,.ptr 3 (p6 0) 0),(3,.ptr 4 (p5 0) 0),(4,.ptr 5 (p4 0) 0),(5,.v (.map none)),(6,.v .nilIface),(9,.sl 6 x.1.2.1 x.1.2.2.1 x.1.2.2.2.1 x.1.1 x.1.2.2.2.2),(24,.sl 7 (p2 0) (p2 1) (p2 2) n (p2 3)),(25,.i .i64 n),(26,.i .i64 x.1.1)])
  (fun x=>[.prd (.mp b (.set []) none),.prd (.mp q (.ptrs 410 []) none),.prd (.st b0 229 [.ul 22 .u64 nv V,.ul 22 .u64 nl L,.ul 22 .u64 0 [],.ul 22 .u64 0 [],.ob 4 a]),
   .raw true (p6 0) 364 [.hv 0 (.map (some b)),.v (.map none),.bl false,.v (.map none),.v (.map none),.hv 1 (.map (some q)),.v vt,.i .i64 mi,.i .u64 mb,.i .u64 li],
   .raw true (p5 0) 133 [.ptr 2 b0 0],
   .raw true (p4 0) 254 [.v (.map none),.v (.map none),.bl false,.v (.map none),.v (.map none)],
   .prd (.sl true x.1.2.1 x.1.2.2.1 x.1.2.2.2.1 x.1.2.2.2.2 (.sl 403 1 x.1.1 (dl x.1.1))),
   .prd (.sl true (p2 0) (p2 1) (p2 2) (p2 3) (.sl 348 1 n FL))])
  (fun x=>n-x.1.1) ⟨(0,0,0,0,0),Nat.zero_le _⟩ [(0,0),(1,0),(2,0),(3,0),(4,0),(5,0),(99,101),(7,0)] _ _ (by decide+kernel) ?_ ?_
 ·have:dl 0=[]:=by rw[hdl];rfl
  refine⟨rfl,rfl,rfl,⟨rfl,rfl,rfl,⟨rfl,rfl,rfl,rfl⟩,⟨rfl,rfl,rfl,rfl⟩,⟨rfl,rfl,rfl,rfl⟩,?_,rfl,trivial⟩⟩;show eF [.nil] (.prd (.sl true 0 0 0 0 (.sl 403 1 0 (dl 0))));rw[this];exact gE 403 1 true
 rintro⟨⟨i,d1,d2,d3,d4⟩,hi⟩ j LP hsat2 hLP hX hR;change i≤n at hi
 by_cases h:i<n
 ·have h5:CM .lt (Int.ofNat i) (Int.ofNat n)=true:=by rw[hC];simp[cmStd,h]
  have h6:CM .le 0 (Int.ofNat i)=true:=by rw[hC];simp[cmStd]
  have hadd:AR .add .i64 (Int.ofNat i) 1=Int.ofNat (i+1):=by rw[hA];exact fU (by omega)
  have hle2:CM .le (Int.ofNat (na i 1)) 4294967296=true:=by rw[hC,hna];simp only[cmStd,decide_eq_true_eq,Int.ofNat_eq_natCast];omega
  obtain⟨t,v,hF⟩:∃t v,FL[i]?=some (.st 388 [.oi 205 .i32 (some t),.oi 22 .u64 (some v)]):=by
   rw[hFL];simp only[ccL,List.getElem?_append,List.length_map,List.getElem?_map]
   by_cases hv:i<V.length
   ·exact⟨0,V[i],by simp[hv,tY]⟩
   ·have:i-V.length<L.length:=by omega
    exact⟨3,L[i-V.length],by simp[hv,this,tY]⟩
  have hF2:=pJ _ _ _ hF;rw[←hNF] at hF2;cbv;repeat' first|exact O5|intro β;cbv|apply O4
  rw[h5];cbv;repeat' first|exact O5|intro β;cbv|apply O4
  all_goals rw[hF2]
  all_goals (cbv;repeat' first|exact O5|intro β;cbv|apply O4)
  rw[hadd];have e1:na i 1=i+1:=by rw[hna]
  have e2:jf (dl i) [.fc 274 (.st 348 [.st 388 [.oi 205 .i32 (some t),.oi 22 .u64 (some v)]])]=dl (i+1):=by rw[hjf,hdl];show (FL.take i).map MZ++[MZ _]=(FL.take (i+1)).map MZ;rw[List.take_add_one,hF,List.map_append];rfl
  rw[e1];exact hLP ⟨(i+1,β 0,β 1,β 2,β 3),by show i+1≤n;omega⟩ [(0,0),(1,0),(2,0),(3,0),(4,0),(5,0),(11,0),(7,0)] _ (by show n-(i+1)<n-i;omega) ⟨rfl,rfl,rfl,⟨rfl,rfl,rfl,⟨rfl,rfl,rfl,rfl⟩,⟨rfl,rfl,rfl,rfl⟩,⟨rfl,rfl,rfl,rfl⟩,congrArg (fun z=>Pay.sl true (β 0) (β 1) (β 2) (β 3) (.sl 403 1 (i+1) z)) e2,rfl,trivial⟩⟩
 have h5:CM .lt (Int.ofNat i) (Int.ofNat n)=false:=by rw[hC];simp[cmStd,h]
 cbv;repeat' first|exact O5|intro β;cbv|apply O4
 rw[h5];cbv;repeat' first|exact O5|intro β;cbv|apply O4
 apply hX;cbv;repeat' first|exact O5|intro β;cbv|apply O4
 have hin:i=n:=by omega
 subst hin;have hd:dl i=clL V L:=by rw[hdl];show (FL.take i).map MZ=(ccL V L).map MZ;rw[hFL,List.take_of_length_le];simp only[ccL,List.length_append,List.length_map];omega
 refine aD hN [0,1,6] (by decide) rfl ?_ ?_ (fun F'=>s277 (b:=b) (q:=q) (V:=V) (L:=L) (vt:=vt) (mi:=mi) (mb:=mb) (li:=li) (sp:=true) (nn:=d1) (rb:=d2) (off:=d3) (cap:=d4) (n:=i) hcc (by omega) (fun b' q' o P' hT ho=>?_) F')
 ·rfl
 ·exact⟨rfl,rfl,congrArg (fun z=>Pay.sl true d1 d2 d3 d4 (.sl 403 1 i z)) hd,trivial⟩
 have hk:=hKK b' q' o P' hT ho;rcases o with _|⟨c,l⟩
 ·cbv;repeat' first|exact O5|intro β;cbv|apply O4
  refine hP [(0,0),(1,0),(2,0),(2,1)] _ _ _ _ ?_ rfl ?_ hk
  ·rfl
  ·exact⟨rfl,rfl,rfl,trivial⟩
 ·cbv;repeat' first|exact O5|intro β;cbv|apply O4
  refine hP [(0,0),(1,0),(2,0),(8,0)] _ _ _ _ ?_ rfl ?_ hk
  ·rfl
  ·exact⟨rfl,rfl,rfl,rfl,trivial⟩
structure CFG where
 id:Int
 et:Int
 ht:Int
 ap:Int
 ms:Int
 mc:Int
 mi:Int
 cq:Bool
 pv:Bool
 ro:Int
 nf:Bool
 sd:Bool
structure CFG.ok (c:CFG):Prop where
 id0:0<c.id
 id1:c.id<1099511627776
 ht0:1≤c.ht
 et0:c.ht<c.et
 et1:c.et≤30
 ms0:1048576≤c.ms
 mc0:1048576≤c.mc
 mi0:1≤c.mi
 mi1:c.mi≤100
 ro0:c.ro=0∨c.ro=1
 ro1:c.ro=1→c.cq=true
def CFG.raw (c:CFG) (cb sb zn zb zo zl zc:Nat) (mu mb:Int):C:=
 .raw true cb 235 [.i .u64 c.id,.i .i64 c.et,.i .i64 c.ht,.ifc 132 (.ptr 1 sb 0),.i .u64 c.ap,.bl false,.i .u64 c.ms,.i .u64 c.mc,.i .u64 mu,.i .i64 c.mi,.i .u64 mb,.bl c.cq,.bl c.pv,.i .i64 c.ro,.bl c.nf,.bl false,.bl c.sd,.sl 5 zn zb zo zl zc]
theorem EF {P:Program} {IN:AG} {F:HProp} (hN:IN=inS P F) {n:FuncId} {args:List SV} {heap:List C} {K:SV→List C→Prop} (h:∀F',inS P F' n args heap K):IN n args heap K:=by subst hN;exact h F
theorem aT (c:C):sB c c:=by cases c<;>simp[sB]
theorem lg {p:Prop} (h:p:=by first|(with_reducible exact trivial)|(with_reducible exact rfl)|exact aT _):p:=h
theorem aP {p:Prop} (h:p:=by cbv;repeat' (first|(with_reducible apply And.intro)|(with_reducible exact trivial)|(with_reducible exact rfl)|exact aT _|(simp;done))):p:=h
theorem s219 {c:CFG} (hc:c.ok) {cb sb zn zb zo zl zc:Nat} {C1 C2 C3 C4 C5:C} {K:SV→List C→Prop}
  (hKK:K (.v .nilIface) [c.raw cb sb zn zb zo zl zc 18446744073709551615 18446744073709551615,C1,C2,C3,C4,C5]) (F:HProp):
  inS Tryz.prog F 219 [.ptr 0 cb 0] [c.raw cb sb zn zb zo zl zc 0 0,C1,C2,C3,C4,C5] K:=by
 obtain⟨id,et,ht,ap,ms,mc,mi,cq,pv,ro,nf,sd⟩:=c;obtain⟨h1,h2,h3,h4,h5,h6,h7,h8,h9,h10,h11⟩:=hc;change 0<id at h1;change id<1099511627776 at h2;change 1≤ht at h3;change ht<et at h4;change et≤30 at h5;change 1048576≤ms at h6;change 1048576≤mc at h7;change 1≤mi at h8;change mi≤100 at h9;change ro=0∨ro=1 at h10;change ro=1→cq=true at h11;refine aF ⟨false,false⟩ (fun _=>[]) (fun _=>.nil) Tryz.func219 Tryz.ntmps219 rfl rfl ?_;intros;rename_i CM _ _ _ _ _ _ _ _ hI _ _ _ _ hP;have c1:CM .eq id 0=false:=O6;have c2:CM .eq id 18446744073709551615=false:=O6;have c3:CM .eq id 18446744073709551614=false:=O6;have c4:CM .le ht 0=false:=O6;have c5:CM .le et ht=false:=O6;have c6:CM .eq 0 0=true:=O6;have c7:CM .eq mc 0=false:=O6;have c8:CM .le mi 0=false:=O6;have c9:CM .eq 0 1=false:=O6;have c10:CM .eq 1 1=true:=O6;cbv;repeat' first|exact O5|intro β;cbv|apply O4
 repeat (any_goals (simp only[c1];try (cbv;repeat' first|exact O5|intro β;cbv|apply O4)))
 refine inl @hI Tryz.func143 Tryz.ntmps143 rfl rfl ?_;cbv;repeat' first|exact O5|intro β;cbv|apply O4
 repeat (any_goals (simp only[c2,c3,c4,c5,c6,c7,c8];try (cbv;repeat' first|exact O5|intro β;cbv|apply O4)))
 rcases h10 with rfl|rfl
 ·repeat (any_goals (simp only[c9];try (cbv;repeat' first|exact O5|intro β;cbv|apply O4)))
  refine hP [(0,0),(1,0),(2,0),(3,0),(4,0),(5,0)] _ _ _ _ ?_ rfl ?_ hKK
  ·rfl
  ·exact⟨⟨rfl,rfl,rfl,rfl⟩,aT _,aT _,aT _,aT _,aT _,trivial⟩
 ·obtain rfl:=h11 rfl
  repeat (any_goals (simp only[c10];try (cbv;repeat' first|exact O5|intro β;cbv|apply O4)))
  refine hP [(0,0),(1,0),(2,0),(3,0),(4,0),(5,0)] _ _ _ _ ?_ rfl ?_ hKK
  ·rfl
  ·exact⟨⟨rfl,rfl,rfl,rfl⟩,aT _,aT _,aT _,aT _,aT _,trivial⟩
def K8 (q:Nat) (V L:List Int):HProp:=exi fun P':MQ=>star (pure' (TrkOK V L P')) (dA q (.ptrs 410 P') none)
theorem LA {q:Nat} {V L:List Int} {P':MQ} (h:TrkOK V L P') {w:World} {G:HProp} (hs:sat w (star (dA q (.ptrs 410 P') none) G)):sat w (star (K8 q V L) G):=by unfold K8;rw[aL];refine⟨P',?_⟩;rw[aA];exact aB.2 ⟨h,hs⟩
theorem L6 {q:Nat} {V L:List Int} {w:World} {G:HProp} (hs:sat w (star (K8 q V L) G)):∃P',TrkOK V L P'∧sat w (star (dA q (.ptrs 410 P') none) G):=by unfold K8 at hs;rw[aL] at hs;obtain⟨P',hs⟩:=hs;rw[aA] at hs;exact⟨P',(aB.1 hs).1,(aB.1 hs).2⟩
theorem in_tk {IN:AG} {F:HProp} (hN:IN=inS Tryz.prog F) {n:FuncId} {args:List SV} {heap:List C} {K:SV→List C→Prop} (p:Nat) {q:Nat} {V L:List Int} (hp:Nat.blt p heap.length=true)
  (hc:heap.getD p .nil=.prd (.h (K8 q V L))) (hF:tC Tryz.prog n) (h:∀P',TrkOK V L P'→IN n args (heap.set p (.prd (.mp q (.ptrs 410 P') none))) K):IN n args heap K:=by
 subst hN;refine⟨hF,fun w hs=>?_⟩;have hp:=Nat.le_of_ble_eq_true hp;rw[bV heap p,hc,aA] at hs;obtain⟨P',h1,h2⟩:=L6 (q:=q) (V:=V) (L:=L) hs;refine(h P' h1).2 w ?_;rw[dW _ _ _ hp,aA];exact h2
theorem inS.out2 {P:Program} {F:HProp} {n:FuncId} {args:List SV} {heap:List C} {K K':SV→List C→Prop} (h:inS P F n args heap K)
  (hk:∀v hp,K v hp→∃v' hp',K' v' hp'∧v'.den=v.den∧∀(w:World) (G:HProp),sat w (star (big hp) G)→sat w (star (big hp') G)):inS P F n args heap K':=
 ⟨h.1,fun w hs=>(h.2 w hs).mono fun e w' hR=>hR.imp id fun⟨v,hp,h1,h2,h3⟩=>let ⟨v',hp',k,e1,f⟩:=hk v hp h1;⟨v',hp',k,by rw[e1];exact h2,f w' _ h3⟩⟩
inductive O224 (V L:List Int) (nv nl:Nat):Prop where
 |mk (h:ccP V L) (h1:nv=V.length) (h2:nl=L.length)
def llN (n:Nat) (x:SV):SV:=match n with
 |0=>.v (.map none)|_+1=>x
def llM (n c:Nat) (L:List Int):C:=match n with
 |0=>.free|_+1=>.prd (.mp c (.set L) none)
def GE:cJ Pay where
 X:=(Nat×Nat×Nat)×List Int×List Int×(Value×Int×Int×Int)×Option Bool×Nat×Nat
 args:=fun((b,q,b0),V,L,(vt,mi,mb,li),a,nv,nl)=>[.agg [.hv 0 (.map (some b)),.v (.map none),.bl false,.v (.map none),.v (.map none),.hv 1 (.map (some q)),.v vt,.i .i64 mi,.i .u64 mb,.i .u64 li],.ptr 2 b0 0]
 pre:=fun((b,q,b0),V,L,(vt,mi,mb,li),a,nv,nl)=>[.prd (.mp b (.set []) none),.prd (.mp q (.ptrs 410 []) none),.prd (.st b0 229 (sP (nv,V) (nl,L) (0,[]) (0,[]) a))]
 obl:=fun((b,q,b0),V,L,(vt,mi,mb,li),a,nv,nl)=>O224 V L nv nl
 nf:=3
 res:=fun((b,q,b0),V,L,(vt,mi,mb,li),a,nv,nl) β=>.tup [.agg [.hv 3 (.map (some (β 0))),.v (.map none),.bl false,llN (β 2) (.hv 5 (.map (some (β 3)))),.v (.map none)],.hv 4 (.map (some (β 1))),.v .nilIface]
 ws:=fun((b,q,b0),V,L,(vt,mi,mb,li),a,nv,nl) β=>[.cel 0 .free,.cel 1 .free,.cel 3 (.prd (.mp (β 0) (.set V) none)),.cel 4 (.prd (.h (K8 (β 1) V L))),.cel 5 (llM (β 2) (β 3) L)]
 fact:=fun((b,q,b0),V,L,(vt,mi,mb,li),a,nv,nl) β=>some (β 2=0→L=[])
theorem KG:GE.ok Tryz.prog 224:=by
 refine cK ?_;rintro⟨⟨b,q,b0⟩,V,L,⟨vt,mi,mb,li⟩,a,nv,nl⟩ F K ⟨h1,h2,h3⟩ hk
 refine inS.out2 (s224 (K:=fun v hp=>∃(b' q':Nat) (o:LL) (P':MQ),TrkOK V L P'∧(match o with|none=>L=[]|some (_,l)=>l=L)∧v=(.tup [.agg [.hv 0 (.map (some b')),.v (.map none),.bl false,EX 3 o,.v (.map none)],.hv 1 (.map (some q')),.v .nilIface])∧
   hp=[.prd (.mp b' (.set V) none),.prd (.mp q' (.ptrs 410 P') none),.prd (.st b0 229 (sP (nv,V) (nl,L) (0,[]) (0,[]) a)),BT o]) h1 h2 h3 (fun b' q' o P' hT ho=>⟨b',q',o,P',hT,ho,rfl,rfl⟩) F) ?_
 rintro v hp ⟨b',q',o,P',hT,ho,rfl,rfl⟩;rcases o with _|⟨c,l⟩
 ·refine⟨_,_,hk (fun|0=>b'|1=>q'|_=>0) (fun _=>ho),rfl,fun w G hs=>?_⟩;have hs:sat w (star (star (dA b' (.set V) none) (star (dA q' (.ptrs 410 P') none) (star (tX b0 229 (sP (nv,V) (nl,L) (0,[]) (0,[]) a)) (star emp emp)))) G):=hs;have h2:=LA hT (aI (B:=star (dA q' (.ptrs 410 P') none) (star (dA b' (.set V) none) (star (star (tX b0 229 (sP (nv,V) (nl,L) (0,[]) (0,[]) a)) (star emp emp)) G))) hs (by ac_rfl));show sat w (star (star emp (star emp (star (tX b0 229 (sP (nv,V) (nl,L) (0,[]) (0,[]) a)) (star (dA b' (.set V) none) (star (K8 q' V L) (star emp emp)))))) G);simp only[aH,aO] at h2⊢;exact aI h2 (by ac_rfl)
 ·change l=L at ho;subst ho;refine⟨_,_,hk (fun|0=>b'|1=>q'|2=>1|_=>c) (fun h=>by cases h),rfl,fun w G hs=>?_⟩;have hs:sat w (star (star (dA b' (.set V) none) (star (dA q' (.ptrs 410 P') none) (star (tX b0 229 (sP (nv,V) (nl,l) (0,[]) (0,[]) a)) (star (dA c (.set l) none) emp)))) G):=hs;have h2:=LA hT (aI (B:=star (dA q' (.ptrs 410 P') none) (star (dA b' (.set V) none) (star (star (tX b0 229 (sP (nv,V) (nl,l) (0,[]) (0,[]) a)) (star (dA c (.set l) none) emp)) G))) hs (by ac_rfl));show sat w (star (star emp (star emp (star (tX b0 229 (sP (nv,V) (nl,l) (0,[]) (0,[]) a)) (star (dA b' (.set V) none) (star (K8 q' V l) (star (dA c (.set l) none) emp)))))) G);simp only[aH,aO] at h2⊢;exact aI h2 (by ac_rfl)
def m224 (args:List SV):SM Pay (GE.X×List Nat):=match args with
 |[.agg [.hv h (.map (some b)),_,_,_,_,.hv g (.map (some q)),vt,mi,mb,li],.ptr k b0 _]=>match bG mi,bG mb,bG li with
  |some (_,_,mi),some (_,_,mb),some (_,_,li)=>.rdC k fun c=>match c with
   |.prd (.st _ _ [.ul _ _ nv V,.ul _ _ nl L,_,_,.ob _ a])=>.ret (((b,q,b0),V,L,(vt.den,mi,mb,li),a,nv,nl),[h,g,k])|_=>.fail
  |_,_,_=>.fail
 |_=>.fail
theorem x224:cI 224:=⟨_,Tryz.func224,rfl,by decide⟩
def r224:aN:=⟨224,3,true,GE.app m224,GE.app_ok KG m224,fun h=>by cases h⟩
def rndP (x:List Int×Nat×Int×Int):Int:=match x.2.1 with
 |0=>0|_=>arStd .conv .i64 (arStd .rem .u64 (arStd .conv .u64 (dI x.1 (arStd .rem .i64 x.2.2.1 x.2.1).toNat) 0) (arStd .conv .u64 x.2.2.2 0)) 0
def nxP (x:Nat×Int):Int:=match x.1 with
 |0=>x.2|_=>arStd .add .i64 x.2 1
inductive ORnd (Z:List Int) (nz:Nat) (nx n v w:Int):Prop where
 |mk (h1:0≤nx) (h2:nx<9223372036854775807) (h3:nz≤1000) (h4:0<n) (h5:n≤1000) (h6:v=rndP (Z,nz,nx,n)) (h7:w=nxP (nz,nx))
def H8:cJ Pay where
 X:=(Nat×(Nat→SV))×(Bool×Nat×Nat×Nat×Nat×Nat×List Int)×Int×Int×Int×Int
 args:=fun((b,r),(sp,nn,zb,off,cap,nz,Z),nx,n,v,w)=>[.ptr 0 b 0,.i .i64 n]
 pre:=fun((b,r),(sp,nn,zb,off,cap,nz,Z),nx,n,v,w)=>[.raw true b 264 [r 0,r 1,r 2,r 3,r 4,r 5,r 6,r 7,r 8,r 9,r 10,r 11,r 12,r 13,r 14,r 15,r 16,r 17,r 18,r 19,r 20,r 21,r 22,r 23,r 24,r 25,r 26,r 27,r 28,r 29,r 30,r 31,r 32,r 33,r 34,r 35,r 36,r 37,.sl 1 nn zb off nz cap,.i .i64 nx],.prd (.sl sp nn zb off cap (.ul 3 .i64 nz Z))]
 obl:=fun((b,r),(sp,nn,zb,off,cap,nz,Z),nx,n,v,w)=>ORnd Z nz nx n v w
 nf:=0
 res:=fun((b,r),(sp,nn,zb,off,cap,nz,Z),nx,n,v,w) _=>.i .i64 v
 ws:=fun((b,r),(sp,nn,zb,off,cap,nz,Z),nx,n,v,w) _=>[.fld 0 39 (.i .i64 w)]
theorem G8:H8.ok Tryz.prog 345:=by
 refine aJ ⟨false,false⟩ (fun _=>[]) (fun _=>.nil) _ Tryz.func345 Tryz.ntmps345 rfl rfl ?_;intros;rename_i NI hNI _ _ _ _ _ _ _ _ _ _ AR hA CM hC _ _ _ _ _ _ _ _ _ _ x _ _ ho _ hP;obtain⟨⟨b,r⟩,⟨sp,nn,zb,off,cap,nz,Z⟩,nx,n,v,w⟩:=x;obtain⟨h1,h2,h3,h4,h5,h6,h7⟩:=ho;change 0≤nx at h1;change nx<9223372036854775807 at h2;change nz≤1000 at h3;change 0<n at h4;change n≤1000 at h5;change v=rndP (Z,nz,nx,n) at h6;change w=nxP (nz,nx) at h7;cases nz with
 |zero=>
  change v=0 at h6;change w=nx at h7;subst h6;subst h7;have c0:CM .eq (Int.ofNat 0) 0=true:=by rw[hC];rfl
  cbv;repeat' first|exact O5|intro β;cbv|apply O4
  repeat (any_goals (simp only[c0];try (cbv;repeat' first|exact O5|intro β;cbv|apply O4)))
  exact hP (fun _=>0) [(0,0),(1,0)] _ _ rfl bM
 |succ k=>
  obtain⟨m,hm⟩:∃m,m=k+1:=⟨_,rfl⟩;rw[←hm] at h6 h7 h3⊢;obtain⟨j,hj⟩:∃j:Nat,j=(nx %(m:Int)).toNat:=⟨_,rfl⟩;have hjj:(j:Int)=nx %(m:Int):=by rw[hj];exact Int.toNat_of_nonneg (Int.emod_nonneg _ (by omega))
  have hj1:(j:Int)<(m:Int):=by rw[hjj];exact Int.emod_lt_of_pos _ (by omega)
  have a1:AR .rem .i64 nx (Int.ofNat m)=Int.ofNat j:=by rw[hA];show Int.tmod nx (Int.ofNat m)=_;rw[Int.tmod_eq_emod_of_nonneg h1];exact hjj.symm
  have c0:CM .eq (Int.ofNat m) 0=false:=O6;have c1:CM .le 0 (Int.ofNat j)=true:=O6;have c2:CM .lt (Int.ofNat j) (Int.ofNat m)=true:=O6;have hm0:Int.ofNat m≠0:=by simp only[Int.ofNat_eq_natCast];omega
  have hn0:n≠0:=by omega
  have hv:v=AR .conv .i64 (AR .rem .u64 (AR .conv .u64 (NI Z j) 0) n) 0:=by
   have cv:arStd .conv .u64 n 0=n:=by show IntKind.u64.wrap _=_;rw[IntKind.wrap_u64];omega
   rw[hA] at a1;rw[h6,hm,hA,hNI];simp only[rndP];rw[←hm,cv,show ((m:Nat):Int)=Int.ofNat m from rfl,a1];rfl
  have hw:w=AR .add .i64 nx 1:=by rw[h7,hm,hA];rfl
  have cv:AR .conv .u64 n 0=n:=by rw[hA];show IntKind.u64.wrap _=_;rw[IntKind.wrap_u64];omega
  have hn1:AR .conv .u64 n 0≠0:=by rw[cv];exact hn0
  cbv;repeat' first|exact O5|intro β;cbv|apply O4
  repeat (any_goals (simp only[c0,a1,c1,c2,cv];try (cbv;repeat' first|exact O5|intro β;cbv|apply O4)))
  all_goals try (first|exact hm0 (by assumption)|exact hn1 (by assumption))
  rw[←hv,←hw];subst hm;exact hP (fun _=>0) [(0,0),(1,0)] _ _ rfl ⟨trivial,rfl,rfl,⟨⟨rfl,rfl,rfl,rfl⟩,rfl,trivial⟩⟩
def m345 (TX:TF) (args:List SV):SM Pay (H8.X×List Nat):=match args with
 |[.ptr h b _,n]=>match bG n with
  |some (_,_,n)=>.rdF h 38 fun _ _ _ z=>.rdF h 39 fun _ _ _ x=>match z with
   |.sl g nn zb off nz cap=>match bG x with
    |some (_,_,nx)=>.rdC g fun c=>.rdC h fun c2=>match c,c2 with
     |.prd (.sl sp _ _ _ _ (.ul _ _ _ Z)),.raw _ _ _ l=>.ret (((b,fun i=>l.getD i (.v undef)),(sp,nn,zb,off,cap,nz,Z),nx,n,TX.ap rndP (Z,nz,nx,n),TX.ap nxP (nz,nx)),[h,g])|_,_=>.fail
    |none=>.fail
   |_=>.fail
  |none=>.fail
 |_=>.fail
theorem x345:cI 345:=⟨_,Tryz.func345,rfl,by decide⟩
def r345 (TX:TF):aN:=⟨345,0,true,H8.app (m345 TX),H8.app_ok G8 (m345 TX),fun h=>by cases h⟩
end Go.Sx
