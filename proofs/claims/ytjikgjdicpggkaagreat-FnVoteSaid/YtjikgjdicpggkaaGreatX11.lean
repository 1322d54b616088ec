import Derived.Test.YtjikgjdicpggkaaGreatX10
set_option autoImplicit true
set_option relaxedAutoImplicit true
set_option linter.all false
set_option maxRecDepth 100000
set_option maxHeartbeats 4000000
namespace Go.Sx
open Go Go.Proofs
theorem LU {b q:Nat} {V:List Int} {it iu:IT} {P:MQ} {vt:Value} {mi mb li id:Int} {r b1 c:Nat} {l:List Int} {iv:IT} {K:SV→List C→Prop}
  (hT:TrkOK V l P) (hid:id∉V) (hidl:id∉l) (hid0:id≠0) (hV:V.length≤900) (hV0:V≠[])
  (hKK:∀(b' q' c':Nat) (P':MQ),TrkOK V (l++[id]) P'→K (.tup [.agg [.hv 0 (.map (some b')),.v (.map none),.bl false,.hv 4 (.map (some c')),.v (.map none)],.hv 1 (.map (some q')),.v .nilIface])
   [.prd (.mp b' (.set V) none),.prd (.mp q' (.ptrs 410 P') none),.prd (.st b1 388 [.oi 205 .i32 (some 3),.oi 22 .u64 (some id)]),.free,.prd (.mp c' (.set (l++[id])) none)]) (F:HProp):
  inS Tryz.prog F 269 [.agg [.hv 0 (.map (some b)),.v (.map none),.bl false,.hv 4 (.map (some c)),.v (.map none),.hv 1 (.map (some q)),.v vt,.i .i64 mi,.i .u64 mb,.i .u64 li],.hv 3 (.slice (some ⟨r,0,none⟩) 1 1)]
   [.prd (.mp b (.set V) it),.prd (.mp q (.ptrs 410 P) iu),.prd (.st b1 388 [.oi 205 .i32 (some 3),.oi 22 .u64 (some id)]),.raw true r 348 [.ptr 2 b1 0],.prd (.mp c (.set l) iv)] K:=by
 refine aF ⟨false,true⟩ (fun TX=>[OO,N3,M1,OX,IH,LX,NP TX]) (fun _=>(.cons LV (.cons M2 (.cons OA (.cons MN (.cons KL (.cons OW (.cons L5 .nil)))))))) Tryz.func269 Tryz.ntmps269 rfl rfl ?_;intros;rename_i ins hins kq hkq adq hadq _ _ _ _ _ _ _ _ op hop _ _ ln hln _ _ _ _ _ _ _ _ _ _ _ _ _ _ _ _ _ _ TX hTX _ _ AR _ CM hC _ _ _ _ _ _ hU hI hL _ hN hsat hP;cbv;repeat' first|exact O5|intro β;cbv|apply O4
 refine inl @hI Tryz.func312 Tryz.ntmps312 rfl rfl ?_;cbv;repeat' first|exact O5|intro β;cbv|apply O4
 refine inl @hI Tryz.func352 Tryz.ntmps352 rfl rfl ?_;cbv;repeat' first|exact O5|intro β;cbv|apply O4
 rename_i g5 g6 g8 g9 g11 g12 g10 g28;rename Nat=>r1;refine hL _ {x:Option Int×MQ×List Int//(keysq P).Perm (keysq x.2.1++x.2.2)∧∀y∈x.2.1,PrOK l y} (fun x j=>eO 34 j [(2,.ptr 9 (g9 0) 0),(5,.ptr 10 (g10 0) 0),(6,.hv 28 (.map (some g28))),(17,.ptr 1 r1 0)])
  (fun x=>[.prd (.mp b (.set V) none),.prd (.mp q (.ptrs 410 P) (some (r1,x.1.1,x.1.2.2))),.prd (.st b1 388 [.oi 205 .i32 (some 3),.oi 22 .u64 (some id)]),.raw true r 348 [.ptr 2 b1 0],.free,
   .raw true (g5 0) 364 [.hv 0 (.map (some b)),.v (.map none),.bl false,.hv 4 (.map (some c)),.v (.map none),.hv 1 (.map (some q)),.v vt,.i .i64 mi,.i .u64 mb,.i .u64 li],
   .raw true (g6 0) 254 [.v (.map none),.v (.map none),.bl false,.v (.map none),.v (.map none)],.free,.free,
   .raw true (g9 0) 254 [.v (.map none),.v (.map none),.bl false,.v (.map none),.v (.map none)],
   .raw true (g10 0) 254 [.hv 12 (.map (some (g12 6 0))),.v (.map none),.bl false,.hv 20 (.map (some (g12 20 0))),.v (.map none)],.free,
   .prd (.mp (g12 6 0) (.set V) none),.free,.free,.free,.free,.free,.free,.free,.prd (.mp (g12 20 0) (.set l) none),.free,.free,.free,.free,.free,.free,.free,.prd (.mp g28 (.ptrs 410 x.1.2.1) none)])
  (fun x=>x.1.2.2.length) ⟨(none,[],kq P),by rw[hkq];exact⟨List.Perm.refl _,fun y h=>by cases h⟩⟩
  [(0,0),(1,0),(2,0),(3,0),(7,1),(5,0),(6,0),(7,1),(7,1),(9,0),(10,0),(7,1),(12,0),(7,1),(7,1),(7,1),(7,1),(7,1),(7,1),(7,1),(20,0),(7,1),(7,1),(7,1),(7,1),(7,1),(7,1),(7,1),(28,0)] _ _ (by decide+kernel) ?_ ?_
 ·refine⟨rfl,rfl,rfl,?_⟩;cbv
 rintro⟨⟨cur,Q,lf⟩,hp,hQ⟩ j LP hsat2 hLP hX hR;change (keysq P).Perm (keysq Q++lf) at hp;change∀y∈Q,PrOK l y at hQ;have hPn:=iH 1 hsat2 rfl;cbv;refine⟨fun h0=>?_,fun k lf' y hq=>?_⟩
 case refine_2=>
  have hkP:k∈keysq Q++lf:=List.mem_append_right _ (hq.mem_iff.2 (List.mem_cons_self ..));have hne:∀x∈Q,x.1≠k:=by
   intro x hx e;have h1:(keysq Q++lf).Nodup:=hp.nodup hPn;have h2:k∈keysq Q:=by
    rw[←e];clear hp hQ h1 hkP hLP hX hR hsat2;induction Q with
    |nil=>cases hx|cons z Q ih=>
     simp only[keysq,List.mem_cons];rcases List.mem_cons.1 hx with rfl|hx
     ·exact .inl rfl
     ·exact .inr (ih hx)
   exact(List.nodup_append.1 h1).2.2 k h2 k (hq.mem_iff.2 (List.mem_cons_self ..)) rfl
  cbv;refine⟨fun l1 blk cs l2 hPe=>?_,fun l1 blk l2 hPe=>(hT.noOpen hPe).elim⟩;obtain⟨u,hu,hu1⟩:=hT.get1 hPe;have u0:=hu1 0;have u1:=hu1 1;have u2:=hu1 2;have u3:=hu1 3;have u4:=hu1 4;have u5:=hu1 5;have u6:=hu1 6;have u7:=hu1 7;obtain⟨f,hf⟩:∃f,f=decide (k∈l):=⟨_,rfl⟩;rw[←hf] at hu;subst hu;cbv;repeat' first|exact O5|intro β;cbv|apply O4
  have e1:eF [.prd (.mp q (.ptrs 410 (op l1 k blk l2)) (some (r1,some k,lf'))),.raw true blk 410 (lH u f)] (.prd (.mp q (.ptrs 410 P) (some (r1,some k,lf')))):=by rw[hPe,hop];exact bN q 410 l1 l2 k blk _ _ _ rfl
  have e2:eF [.prd (.mp g28 (.ptrs 410 (adq Q k (β 0))) none),.raw true (β 0) 410 (lH u f)] (.prd (.mp g28 (.ptrs 410 (Q++[(k,β 0,some (lH u f))])) none)):=by rw[hadq];exact bN g28 410 Q [] k (β 0) _ _ _ rfl
  refine hLP ⟨(some k,Q++[(k,β 0,some (lH u f))],lf'),?_,?_⟩ [(0,0),(1,31),(2,0),(3,0),(7,1),(5,0),(6,0),(7,1),(7,1),(9,0),(10,0),(7,1),(12,0),(7,1),(7,1),(7,1),(7,1),(7,1),(7,1),(7,1),(20,0),(7,1),(7,1),(7,1),(7,1),(7,1),(7,1),(7,1),(28,32)] _ (by show lf'.length<lf.length;rw[hq.length_eq];simp) ⟨rfl,rfl,rfl,⟨rfl,?_,rfl,⟨rfl,rfl,rfl,rfl⟩,⟨rfl,rfl,rfl,rfl⟩,⟨rfl,rfl,rfl,rfl⟩,⟨rfl,rfl,rfl,rfl⟩,⟨rfl,rfl,rfl,rfl⟩,rfl,rfl,?_,trivial⟩⟩
  ·show (keysq P).Perm (keysq (Q++[(k,β 0,some (lH u f))])++lf');rw[bX,List.append_assoc];show (keysq P).Perm (keysq Q++(k::lf'));exact hp.trans (List.Perm.append_left (keysq Q) hq)
  ·intro y hy;rcases List.mem_append.1 hy with hy|hy
   ·exact hQ y hy
   ·simp only[List.mem_singleton] at hy;subst hy;exact⟨u,by rw[hf],hu1⟩
  ·exact e1
  ·exact e2
 case refine_1=>
  subst h0;have hTQ:TrkOK V l Q:=by refine⟨fun k=>?_,hT.disj,hQ⟩;rw[←hT.keys k,hp.mem_iff,List.append_nil]
  cbv;apply hX;cbv;repeat' first|exact O5|intro β;cbv|apply O4
  refine inl @hI Tryz.func319 Tryz.ntmps319 rfl rfl ?_;cbv;repeat' first|exact O5|intro β;cbv|apply O4
  repeat (first|(refine inl @hI Tryz.func314 Tryz.ntmps314 rfl rfl ?_;cbv;repeat' first|exact O5|intro β;cbv|apply O4)|(refine inl @hI Tryz.func316 Tryz.ntmps316 rfl rfl ?_;cbv;repeat' first|exact O5|intro β;cbv|apply O4)|(refine inl @hI Tryz.func317 Tryz.ntmps317 rfl rfl ?_;cbv;repeat' first|exact O5|intro β;cbv|apply O4)|(refine inl @hI Tryz.func320 Tryz.ntmps320 rfl rfl ?_;cbv;repeat' first|exact O5|intro β;cbv|apply O4))
  refine hU 2 (by decide+kernel) ?_;cbv;repeat' first|exact O5|intro β;cbv|apply O4
  have c1:CM .lt 0 (Int.ofNat 1)=true:=by rw[hC];rfl
  have c2:CM .lt 1 (Int.ofNat 1)=false:=by rw[hC];rfl
  have c3:CM .eq id 0=false:=by rw[hC];simpa [cmStd] using hid0
  have c4:CM .eq 3 0=false:=by rw[hC];rfl
  have c5:CM .eq 3 3=true:=by rw[hC];rfl
  rw[c1];cbv;repeat' first|exact O5|intro β;cbv|apply O4
  rw[c3];cbv;repeat' first|exact O5|intro β;cbv|apply O4
  rw[c4];cbv;repeat' first|exact O5|intro β;cbv|apply O4
  rw[c5];cbv;repeat' first|exact O5|intro β;cbv|apply O4
  have hno:∀(l1:MQ) (blk:Nat) (c:Option (List SV)) (l2:MQ),Q=l1++(id,blk,c)::l2→False:=by
   intro l1 blk c l2 e;have h1:id∈keysq Q:=by rw[e,bX];simp[keysq]
   rcases (hTQ.keys id).1 h1 with h|h
   ·exact hid h
   ·exact hidl h
  have hne:∀x∈Q,x.1≠id:=by intro x hx e;obtain⟨l1,l2,e2⟩:=List.append_of_mem hx;exact hno l1 x.2.1 x.2.2 l2 (by rw[e2,←e])
  have hins1:ins id l=l++[id]:=by
   rw[hins];have:l.contains id=false:=by simpa using hidl
   simp only[this];rfl
  refine inl @hI Tryz.func357 Tryz.ntmps357 rfl rfl ?_;cbv;intro g356;cbv;refine⟨fun l1 blk cs l2 e=>(hno _ _ _ _ e).elim,fun l1 blk l2 e=>(hno _ _ _ _ e).elim,fun _=>?_⟩;cbv;repeat' first|exact O5|intro β;cbv|apply O4
  refine inl @hI Tryz.func384 Tryz.ntmps384 rfl rfl ?_;cbv;repeat' first|exact O5|intro β;cbv|apply O4
  refine inl @hI Tryz.func315 Tryz.ntmps315 rfl rfl ?_;cbv;repeat' first|exact O5|intro β;cbv|apply O4
  rw[c2];cbv;repeat' first|exact O5|intro β;cbv|apply O4
  have hln:CM .eq (Int.ofNat (ln V)) 0=false:=by
   rw[hC,hln];cases V with
   |nil=>exact absurd rfl hV0|cons a V=>simp[cmStd];omega
  have hSD:s5 V V (TX.ap kG (V,V)):=s5.self hTX (by omega) (by omega);rw[hln];cbv;repeat' first|exact O5|intro β;cbv|apply O4
  have hgt:CM .lt 1 (Int.ofNat (TX.ap kG (V,V)))=false:=by
   have e1:TX.ap kG (V,V)=0:=by
    rw[hTX];show difC V V+difC V V=0;have h2:difC V V=0:=by unfold difC;rw[List.filter_eq_nil_iff.2 (fun x hx=>by simp[hx])];rfl
    rw[h2]
   rw[hC,e1];rfl
  erw [hgt]
  cbv;repeat' first|exact O5|intro β;cbv|apply O4
  rename_i w11 w10 w9 w8 w7 w6 w5 w4 w3 w2 w1;obtain⟨u,hu⟩:∃u:Nat→Value,u=fun|0=>.int .u64 0|1=>.int .u64 (AR .max .u64 li 1)|2=>.int .u64 0|3=>.int .u64 0|4=>.int .u64 0|5=>.bool true|6=>.bool false|_=>.pointer (some ⟨w3 11 0,0,none⟩):=⟨_,rfl⟩;have hu1:∀i,(u i).oneCell'=true:=by intro i;rw[hu];simp only;split<;>rfl
  obtain⟨Q2,hQ2⟩:∃Q2:MQ,Q2=Q++[(id,w3 14 0,some (lH u true))]:=⟨_,rfl⟩;have hTQ2:TrkOK V (ins id l) Q2:=by
   rw[hins1];refine⟨fun k=>?_,fun k h1 h2=>?_,fun y hy=>?_⟩
   ·rw[hQ2,bX];have:=hTQ.keys k;simp only[keysq,List.mem_append,List.mem_singleton,List.not_mem_nil,or_false] at this⊢;rw[this,or_assoc]
   ·rcases List.mem_append.1 h2 with h2|h2
    ·exact hTQ.disj k h1 h2
    ·simp at h2;subst h2;exact hid h1
   ·rw[hQ2] at hy;rcases List.mem_append.1 hy with hy|hy
    ·obtain⟨v,h1,h2⟩:=hTQ.cl y hy;refine⟨v,?_,h2⟩;rw[h1];have:y.1≠id:=hne y hy;simp[this]
    ·simp only[List.mem_singleton] at hy;subst hy;exact⟨u,by simp,hu1⟩
  refine mQ hN 28 38 (.prd (.mp g28 (.ptrs 410 Q2) none)) rfl rfl rfl ?_ ?_
  ·rw[hQ2];have:=bN g28 410 Q [] id (w3 14 0) [.lit .u64 0,.i .u64 (AR .max .u64 li 1),.lit .u64 0,.lit .u64 0,.lit .u64 0,.bl true,.bl false,.ptr 37 (w3 11 0) 0,.bl true] (lH u true) none (by rw[hu];rfl);rw[show Q++(id,w3 14 0,none)::[]=adq Q id (w3 14 0) by rw[hadq]] at this;exact this
  refine inl @hI Tryz.func319 Tryz.ntmps319 rfl rfl ?_;cbv;repeat' first|exact O5|intro β;cbv|apply O4
  have hk:=hKK (g12 6 0) g28 (g12 20 0) Q2 (by rw[←hins1];exact hTQ2);refine hP [(12,0),(28,0),(2,0),(3,1),(20,0)] _ _ _ _ ?_ rfl ?_ hk
  ·rfl
  ·refine⟨rfl,rfl,rfl,?_,trivial⟩;show Pay.mp _ _ _=Pay.mp _ _ _;rw[hins1]
def tY (t v:Int):FV:=.st 388 [.oi 205 .i32 (some t),.oi 22 .u64 (some v)]
def ccL (V L:List Int):List FV:=V.map (tY 0)++L.map (tY 3)
theorem CE {NI:List Int→Nat→Int} (h:NI=dI) (l:List Int) (i:Nat) (hi:i<l.length):l[i]?=some (NI l i):=by
 subst h;induction l generalizing i with
 |nil=>cases hi|cons a l ih=>
  cases i with
  |zero=>rfl|succ i=>exact ih i (by simpa using hi)
inductive OK (nv:Nat) (V:List Int) (nl:Nat) (L:List Int) (n:Nat) (fl:List FV):Prop where
 |mk (hn:n=nv+nl) (hf:fl=ccL V L) (h1:V.length=nv) (h2:L.length=nl) (h3:nv≤100000) (h4:nl≤100000)
def HY:cJ Pay where
 X:=Nat×(Nat×List Int)×(Nat×List Int)×Option Bool×Nat×List FV
 args:=fun(b,_)=>[.ptr 0 b 0]
 pre:=fun(b,v,l,a,n,fl)=>[.prd (.st b 229 (sP v l (0,[]) (0,[]) a))]
 obl:=fun(b,v,l,a,n,fl)=>OK v.1 v.2 l.1 l.2 n fl
 nf:=1
 res:=fun(b,v,l,a,n,fl) β=>.tup [.v (.slice none 0 0),.sl 1 (β 0) (β 1) (β 2) n (β 3)]
 ws:=fun(b,v,l,a,n,fl) β=>[.cel 1 (.prd (.sl true (β 0) (β 1) (β 2) (β 3) (.sl 348 1 n fl)))]
theorem FJ:HY.ok Tryz.prog 273:=by
 refine aJ ⟨false,false⟩ (fun _=>[]) (fun _=>.nil) _ Tryz.func273 Tryz.ntmps273 rfl rfl ?_;intros;rename_i jf hjf _ _ NI hNI _ _ _ _ _ _ _ _ na hna AR hA CM hC _ _ _ _ _ _ hU hI hL _ x _ _ ho _ hP;obtain⟨b,⟨nv,V⟩,⟨nl,L⟩,a,n,fl⟩:=x;obtain⟨hn,hfl,h1,h2,h3,h4⟩:=ho;change n=nv+nl at hn;change fl=ccL V L at hfl;subst hn;subst hfl;change V.length=nv at h1;change L.length=nl at h2;change nv≤100000 at h3;change nl≤100000 at h4;have c00:CM .lt 0 (Int.ofNat 0)=false:=by rw[hC];rfl
 cbv;repeat' first|exact O5|intro β;cbv|apply O4
 refine hU 1 (by decide+kernel) ?_;cbv;repeat' first|exact O5|intro β;cbv|apply O4
 rw[c00];cbv;repeat' first|exact O5|intro β;cbv|apply O4
 refine hU 1 (by decide+kernel) ?_;cbv;repeat' first|exact O5|intro β;cbv|apply O4
 rw[c00];cbv;repeat' first|exact O5|intro β;cbv|apply O4
 rename Nat→Nat=>b3;obtain⟨dl,hdl⟩:∃dl:Nat→List FV,dl=fun j=>(V.take j).map (tY 0):=⟨_,rfl⟩;refine hL _ {x:Nat×Nat×Nat×Nat×Nat//x.1≤nv} (fun x j=>eO 106 j [(0,.ptr 0 b 0),(2,.v (.slice none 0 0)),(3,.sl 4 x.1.2.1 x.1.2.2.1 x.1.2.2.2.1 x.1.1 x.1.2.2.2.2),(53,.sl 3 (b3 3) (b3 0) (b3 1) nv (b3 2)),(54,.i .i64 nv),(55,.i .i64 x.1.1)])
  (fun x=>[.prd (.st b 229 [.ul 22 .u64 nv V,.ul 22 .u64 nl L,.ul 22 .u64 0 [],.ul 22 .u64 0 [],.ob 4 a]),.free,.free,.prd (.sl false (b3 3) (b3 0) (b3 1) (b3 2) (.ul 22 .u64 nv V)),.prd (.sl true x.1.2.1 x.1.2.2.1 x.1.2.2.2.1 x.1.2.2.2.2 (.sl 348 1 x.1.1 (dl x.1.1)))]) (fun x=>nv-x.1.1) ⟨(0,0,0,0,0),by simp⟩ [(0,0),(1,1),(1,1),(3,0),(99,101)] _ _ (by decide+kernel) ?_ ?_
 ·have:dl 0=[]:=by rw[hdl];rfl
  refine⟨by cbv,by cbv,by cbv,⟨rfl,rfl,?_,trivial⟩⟩;show eF [.nil] (.prd (.sl true 0 0 0 0 (.sl 348 1 0 (dl 0))));rw[this];exact gE 348 1 true
 rintro⟨⟨i,d1,d2,d3,d4⟩,hi⟩ j LP hsat2 hLP hX hR;change i≤nv at hi
 by_cases h:i<nv
 ·have h5:CM .lt (Int.ofNat i) (Int.ofNat nv)=true:=by rw[hC];simp[cmStd,h]
  have h6:CM .le 0 (Int.ofNat i)=true:=by rw[hC];simp[cmStd]
  have hadd:AR .add .i64 (Int.ofNat i) 1=Int.ofNat (i+1):=by rw[hA];exact fU (by omega)
  have hle2:CM .le (Int.ofNat (na i 1)) 4294967296=true:=by rw[hC,hna];simp only[cmStd,decide_eq_true_eq,Int.ofNat_eq_natCast];omega
  have hg:=CE hNI V i (by omega);cbv;repeat' first|exact O5|intro β;cbv|apply O4
  rw[h5];cbv;repeat' first|exact O5|intro β;cbv|apply O4
  refine inl @hI Tryz.func326 Tryz.ntmps326 rfl rfl ?_;cbv;repeat' first|exact O5|intro β;cbv|apply O4
  rw[hadd];have e1:na i 1=i+1:=by rw[hna]
  have e2:jf (dl i) [.st 388 [.oi 205 .i32 (some 0),.oi 22 .u64 (some (NI V i))]]=dl (i+1):=by rw[hjf,hdl];show (V.take i).map (tY 0)++[tY 0 (NI V i)]=(V.take (i+1)).map (tY 0);rw[List.take_add_one,hg,List.map_append];rfl
  rw[e1];exact hLP ⟨(i+1,β 0,β 1,β 2,β 3),by show i+1≤nv;omega⟩ [(0,0),(1,1),(1,1),(3,0),(8,0)] _ (by show nv-(i+1)<nv-i;omega) ⟨rfl,rfl,rfl,⟨rfl,rfl,congrArg (fun z=>Pay.sl true (β 0) (β 1) (β 2) (β 3) (.sl 348 1 (i+1) z)) e2,trivial⟩⟩
 have h5:CM .lt (Int.ofNat i) (Int.ofNat nv)=false:=by rw[hC];simp[cmStd,h]
 cbv;repeat' first|exact O5|intro β;cbv|apply O4
 rw[h5];cbv;repeat' first|exact O5|intro β;cbv|apply O4
 apply hX;cbv;repeat' first|exact O5|intro β;cbv|apply O4
 have e1:i=nv:=by omega
 subst e1;rename Nat→Nat=>b4;obtain⟨dk,hdk⟩:∃dk:Nat→List FV,dk=fun j=>V.map (tY 0)++(L.take j).map (tY 3):=⟨_,rfl⟩;have e3:dl i=dk 0:=by rw[hdl,hdk];show (V.take i).map (tY 0)=_;rw[List.take_of_length_le (by omega)];simp
 refine hL _ {x:Nat×Nat×Nat×Nat×Nat//x.1≤nl} (fun x j=>eO 106 j [(0,.ptr 0 b 0),(2,.v (.slice none 0 0)),(3,.sl 4 x.1.2.1 x.1.2.2.1 x.1.2.2.2.1 (na i x.1.1) x.1.2.2.2.2),(71,.sl 5 (b4 3) (b4 0) (b4 1) nl (b4 2)),(72,.i .i64 nl),(73,.i .i64 x.1.1)])
  (fun x=>[.prd (.st b 229 [.ul 22 .u64 i V,.ul 22 .u64 nl L,.ul 22 .u64 0 [],.ul 22 .u64 0 [],.ob 4 a]),.free,.free,.free,.prd (.sl true x.1.2.1 x.1.2.2.1 x.1.2.2.2.1 x.1.2.2.2.2 (.sl 348 1 (na i x.1.1) (dk x.1.1))),.prd (.sl false (b4 3) (b4 0) (b4 1) (b4 2) (.ul 22 .u64 nl L))]) (fun x=>nl-x.1.1) ⟨(0,d1,d2,d3,d4),by simp⟩ [(0,0),(1,1),(1,1),(1,1),(4,0),(5,0)] _ _ (by decide+kernel) ?_ ?_
 ·have e2:na i 0=i:=by rw[hna];rfl
  refine⟨by cbv;rw[e2];rfl,by cbv,by cbv,⟨rfl,?_,rfl,trivial⟩⟩;show Pay.sl true d1 d2 d3 d4 (.sl 348 1 i (dl i))=Pay.sl true d1 d2 d3 d4 (.sl 348 1 (na i 0) (dk 0));rw[e2,e3]
 clear hX hLP hR hsat2;rintro⟨⟨i2,d1,d2,d3,d4⟩,hi⟩ j LP hsat2 hLP hX hR;change i2≤nl at hi
 by_cases h:i2<nl
 ·have h5:CM .lt (Int.ofNat i2) (Int.ofNat nl)=true:=by rw[hC];simp[cmStd,h]
  have h6:CM .le 0 (Int.ofNat i2)=true:=by rw[hC];simp[cmStd]
  have hadd:AR .add .i64 (Int.ofNat i2) 1=Int.ofNat (i2+1):=by rw[hA];exact fU (by omega)
  have hle2:CM .le (Int.ofNat (na (na i i2) 1)) 4294967296=true:=by rw[hC,hna];simp only[cmStd,decide_eq_true_eq,Int.ofNat_eq_natCast];omega
  have hg:=CE hNI L i2 (by omega);cbv;repeat' first|exact O5|intro β;cbv|apply O4
  rw[h5];cbv;repeat' first|exact O5|intro β;cbv|apply O4
  refine inl @hI Tryz.func326 Tryz.ntmps326 rfl rfl ?_;cbv;repeat' first|exact O5|intro β;cbv|apply O4
  rw[hadd];have e1:na (na i i2) 1=na i (i2+1):=by rw[hna];rfl
  have e2:jf (dk i2) [.st 388 [.oi 205 .i32 (some 3),.oi 22 .u64 (some (NI L i2))]]=dk (i2+1):=by rw[hjf,hdk];show (V.map (tY 0)++(L.take i2).map (tY 3))++[tY 3 (NI L i2)]=V.map (tY 0)++(L.take (i2+1)).map (tY 3);rw[List.take_add_one,hg,List.map_append,List.append_assoc];rfl
  rw[e1];exact hLP ⟨(i2+1,β 0,β 1,β 2,β 3),by show i2+1≤nl;omega⟩ [(0,0),(1,1),(1,1),(1,1),(9,0),(5,0)] _ (by show nl-(i2+1)<nl-i2;omega) ⟨rfl,rfl,rfl,⟨rfl,congrArg (fun z=>Pay.sl true (β 0) (β 1) (β 2) (β 3) (.sl 348 1 (na i (i2+1)) z)) e2,rfl,trivial⟩⟩
 have h5:CM .lt (Int.ofNat i2) (Int.ofNat nl)=false:=by rw[hC];simp[cmStd,h]
 cbv;repeat' first|exact O5|intro β;cbv|apply O4
 rw[h5];cbv;repeat' first|exact O5|intro β;cbv|apply O4
 apply hX;cbv;repeat' first|exact O5|intro β;cbv|apply O4
 refine hU 1 (by decide+kernel) ?_;cbv;repeat' first|exact O5|intro β;cbv|apply O4
 rw[c00];cbv;repeat' first|exact O5|intro β;cbv|apply O4
 have e1:i2=nl:=by omega
 subst e1;refine hP (fun|0=>d1|1=>d2|2=>d3|_=>d4) [(0,0),(4,0)] _ _ rfl ⟨trivial,?_,rfl,⟨rfl,?_,trivial⟩⟩
 ·show _=SV.den (.tup [.v (.slice none 0 0),.sl 1 d1 d2 d3 (i+i2) d4]);have e2:na i i2=i+i2:=by rw[hna]
  rw[←e2];rfl
 ·show Pay.sl true d1 d2 d3 d4 (.sl 348 1 (na i i2) (dk i2))=Pay.sl true d1 d2 d3 d4 (.sl 348 1 (i+i2) (ccL V L));rw[hdk,hna];show Pay.sl true d1 d2 d3 d4 (.sl 348 1 (i+i2) (V.map (tY 0)++(L.take i2).map (tY 3)))=_;rw[List.take_of_length_le (by omega)];rfl
def AW (x:Nat×Nat):Nat:=x.1+x.2
def CT (x:List Int×List Int):List FV:=ccL x.1 x.2
def m273 (TX:TF) (args:List SV):SM Pay (HY.X×List Nat):=match args with
 |[.ptr h _ _]=>.rdC h fun c=>match c with
  |.prd (.st b _ [.ul _ _ v vl,.ul _ _ l ll,_,_,.ob _ a])=>.ret ((b,(v,vl),(l,ll),a,TX.ap AW (v,l),TX.ap CT (vl,ll)),[h])|_=>.fail
 |_=>.fail
theorem x273:cI 273:=⟨_,Tryz.func273,rfl,by decide⟩
def r273 (TX:TF):aN:=⟨273,1,true,HY.app (m273 TX),HY.app_ok FJ (m273 TX),fun h=>by cases h⟩
end Go.Sx
