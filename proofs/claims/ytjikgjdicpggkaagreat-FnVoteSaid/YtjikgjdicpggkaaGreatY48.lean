import Derived.Test.YtjikgjdicpggkaaGreatX01
import Derived.Test.YtjikgjdicpggkaaGreatX02
import Derived.Test.YtjikgjdicpggkaaGreatX04
import Derived.Test.YtjikgjdicpggkaaGreatX16
import Derived.Test.YtjikgjdicpggkaaGreatY47
set_option autoImplicit true
set_option relaxedAutoImplicit true
set_option linter.all false
set_option maxRecDepth 100000
set_option maxHeartbeats 4000000
namespace Go.Sx
open Go Go.Proofs
def hasP (x:List Int×Int):Bool:=x.1.any fun y=>y==x.2
inductive O46 (n:Nat) (l:List Int) (id:Int) (q:Bool):Prop where
 |mk (h1:l.length=n) (h2:n≤4294967296) (h3:q=hasP (l,id))
def c46:cJ Pay where
 X:=Bool×Nat×Nat×Nat×Nat×Nat×List Int×Int×Bool
 args:=fun(sp,nn,b,off,cap,n,l,id,q)=>[.sl 0 nn b off n cap,.i .u64 id]
 pre:=fun(sp,nn,b,off,cap,n,l,id,q)=>[.prd (.sl sp nn b off cap (.ul 22 .u64 n l))]
 obl:=fun(sp,nn,b,off,cap,n,l,id,q)=>O46 n l id q
 res:=fun(sp,nn,b,off,cap,n,l,id,q) _=>.bl q
theorem ON:c46.ok Tryz.prog 46:=by
 refine aJ ⟨false,false⟩ (fun _=>[]) (fun _=>.nil) _ Tryz.func46 Tryz.ntmps46 rfl rfl ?_;intros;rename_i NI hNI _ _ _ _ _ _ _ _ _ _ AR hA CM hC _ _ _ _ _ _ _ _ hL _ x _ _ ho hsat hP;obtain⟨sp,nn,b,off,cap,n,l,id,q⟩:=x;obtain⟨hn,hn2,hq⟩:=ho;change l.length=n at hn;change n≤4294967296 at hn2;change q=hasP (l,id) at hq;have hnn0:0<n→∃k,nn=k+1:=by intro h0;obtain⟨w,F,hs⟩:=hsat;have:=dG (f:=.ul 22 .u64 n l) rfl h0 (by show 0<1;omega) (bY (h:=0) rfl hs);exact⟨nn-1,by omega⟩
 cbv;repeat' first|exact O5|intro β;cbv|apply O4
 refine hL _ {i:Nat//i≤n∧∀k,k<i→l[k]?≠some id} (fun i j=>eO 17 j [(0,.sl 0 nn b off n cap),(1,.i .u64 id),(4,.bl false),(7,.sl 0 nn b off n cap),(8,.i .i64 n),(9,.i .i64 i.1)])
  (fun _=>[.prd (.sl sp nn b off cap (.ul 22 .u64 n l))]) (fun i=>n-i.1) ⟨0,by omega,by intros;omega⟩ [(0,0)] _ _ (by decide+kernel) ⟨by cbv,by cbv,by cbv,⟨rfl,trivial⟩⟩ ?_
 rintro⟨i,hi,hi2⟩ j LP hsat2 hLP hX hR;change i≤n at hi;rcases Nat.lt_or_ge i n with h|h
 ·obtain⟨k,rfl⟩:=hnn0 (by omega);have h1:CM .lt (Int.ofNat i) (Int.ofNat n)=true:=O6;have h3:CM .le 0 (Int.ofNat i)=true:=O6;have hadd:AR .add .i64 (Int.ofNat i) 1=Int.ofNat (i+1):=by rw[hA];exact fU (by omega)
  cbv;repeat' first|exact O5|intro β;cbv|apply O4
  repeat (any_goals (simp only[h1];try (cbv;repeat' first|exact O5|intro β;cbv|apply O4)))
  rcases hv:CM .eq (NI l i) id with _|_
  ·have hv2:NI l i≠id:=by rw[hC] at hv;simpa [cmStd] using hv
   repeat (any_goals (simp only[hv,hadd];try (cbv;repeat' first|exact O5|intro β;cbv|apply O4)))
   exact hLP ⟨i+1,by show i+1≤n;omega,fun k hk=>by
    rcases Nat.lt_succ_iff_lt_or_eq.1 hk with h|rfl
    ·exact hi2 k h
    ·rw[hNI] at hv2;have:=cO (l:=l) (j:=k) (by omega)
     rw[this];simpa using hv2⟩ [(0,0)] _ (by show n-(i+1)<n-i;omega) ⟨rfl,rfl,rfl,⟨rfl,trivial⟩⟩
  ·have hv2:NI l i=id:=by rw[hC] at hv;simpa [cmStd] using hv
   repeat (any_goals (simp only[hv];try (cbv;repeat' first|exact O5|intro β;cbv|apply O4)))
   apply hR;cbv;repeat' first|exact O5|intro β;cbv|apply O4
   have hq2:q=true:=by rw[hq];simp only[hasP,List.any_eq_true,beq_iff_eq];rw[hNI] at hv2;exact⟨id,List.mem_of_getElem? (by rw[cO (l:=l) (j:=i) (by omega),hv2]),rfl⟩
   subst hq2;exact hP (fun _=>0) [(0,0)] _ _ rfl ⟨trivial,rfl,rfl,⟨rfl,trivial⟩⟩
 ·have h1:CM .lt (Int.ofNat i) (Int.ofNat n)=false:=O6;cbv;repeat' first|exact O5|intro β;cbv|apply O4
  repeat (any_goals (simp only[h1];try (cbv;repeat' first|exact O5|intro β;cbv|apply O4)))
  apply hX;cbv;repeat' first|exact O5|intro β;cbv|apply O4
  have hq2:q=false:=by rw[hq];simp only[hasP,List.any_eq_false,beq_iff_eq];intro x hx e;obtain⟨k,hk,rfl⟩:=List.mem_iff_getElem.1 hx;exact hi2 k (by omega) (by simp[hk,e])
  subst hq2;exact hP (fun _=>0) [(0,0)] _ _ rfl ⟨trivial,rfl,rfl,⟨rfl,trivial⟩⟩
def m46 (TX:TF) (args:List SV):SM Pay (c46.X×List Nat):=match args with
 |[.sl h nn b off n cap,id]=>match bG id with
  |some (_,_,id)=>.rdC h fun c=>match c with
   |.prd (.sl sp _ _ _ _ (.ul _ _ _ l))=>.ret ((sp,nn,b,off,cap,n,l,id,TX.ap hasP (l,id)),[h])|_=>.fail
  |none=>.fail
 |_=>.fail
theorem x46:cI 46:=⟨_,Tryz.func46,rfl,by decide⟩
def r46 (TX:TF):aN:=⟨46,0,false,c46.app (m46 TX),c46.app_ok ON (m46 TX),fun _ args base β β'=>rfl⟩
theorem s44 {sp:Bool} {nn b off cap n:Nat} {l:List Int} {K:SV→List C→Prop} (hn2:n≤100000)
  (hQ:∀q:Bool,(q=true→l.Nodup)→K (.bl q) [.prd (.sl sp nn b off cap (.ul 22 .u64 n l))]) (F:HProp):
  inS Tryz.prog F 44 [.sl 0 nn b off n cap] [.prd (.sl sp nn b off cap (.ul 22 .u64 n l))] K:=by
 refine aF ⟨false,false⟩ (fun TX=>[r46 TX]) (fun _=>(.cons x46 .nil)) Tryz.func44 Tryz.ntmps44 rfl rfl ?_;intros;rename_i di hdi _ _ _ _ ns hns NI hNI _ _ _ _ _ _ TX hTX _ _ AR hA CM _ _ _ _ _ _ _ _ _ hL _ _ hsat hP;have hn:=(pS 0 hsat rfl).1;have hnn0:0<n→∃k,nn=k+1:=by intro h0;obtain⟨w,F,hs⟩:=hsat;have:=dG (f:=.ul 22 .u64 n l) rfl h0 (by show 0<1;omega) (bY (h:=0) rfl hs);exact⟨nn-1,by omega⟩
 obtain⟨tz,tls,tt,to0,apx⟩:=TX;have hap:∀{α β:Type} (f:α→β) (x:α),apx f x=f x:=fun f x=>congrArg (fun t:TF=>t.ap f x) hTX;cbv;repeat' first|exact O5|intro β;cbv|apply O4
 refine hL _ {i:Nat//i≤n∧(l.take i).Nodup} (fun i j=>eO 18 j [(0,.sl 0 nn b off n cap),(2,.bl false),(5,.sl 0 nn b off n cap),(6,.i .i64 n),(7,.i .i64 i.1)])
  (fun _=>[.prd (.sl sp nn b off cap (.ul 22 .u64 n l))]) (fun i=>n-i.1) ⟨0,by omega,by simp⟩ [(0,0)] _ _ (by decide+kernel) ⟨by cbv,by cbv,by cbv,⟨rfl,trivial⟩⟩ ?_
 rintro⟨i,hi,hi2⟩ j LP hsat2 hLP hX hR;change i≤n at hi;change (l.take i).Nodup at hi2;rcases Nat.lt_or_ge i n with h|h
 ·obtain⟨k,rfl⟩:=hnn0 (by omega);have h1:CM .lt (Int.ofNat i) (Int.ofNat n)=true:=O6;have h3:CM .le 0 (Int.ofNat i)=true:=O6;have h3':CM .le (Int.ofNat 0) (Int.ofNat i)=true:=O6;have h4:CM .le (Int.ofNat i) (Int.ofNat n)=true:=O6;have hadd:AR .add .i64 (Int.ofNat i) 1=Int.ofNat (i+1):=by rw[hA];exact fU (by omega)
  have edi:di l 0 i=l.take i:=by rw[hdi];simp
  have o46:O46 (ns i 0) (di l 0 i) (NI l i) (apx hasP (di l 0 i,NI l i)):=⟨by rw[edi,hns];show (l.take i).length=i-0;rw[List.length_take];omega,by rw[hns];show i-0≤4294967296;omega,by rw[hap]⟩;cbv;repeat' first|exact O5|intro β;cbv|apply O4|apply o46;done|apply h3;done|apply h3';done|apply h4;done|apply h1;done|fail
  repeat (any_goals (simp only[h1];try (cbv;repeat' first|exact O5|intro β;cbv|apply O4|apply o46;done|apply h3;done|apply h3';done|apply h4;done|apply h1;done|fail)))
  rcases hq:apx hasP (di l 0 i,NI l i) with _|_
  ·repeat (any_goals (simp only[hq,hadd];try (cbv;repeat' first|exact O5|intro β;cbv|apply O4|apply o46;done|apply h3;done|apply h3';done|apply h4;done|apply h1;done|fail)))
   have hni:NI l i∉l.take i:=by rw[hap,edi] at hq;simp only[hasP,List.any_eq_false,beq_iff_eq] at hq;exact fun hm=>hq _ hm rfl
   exact hLP ⟨i+1,by show i+1≤n;omega,by
    show (l.take (i+1)).Nodup;have g1:l[i]?=some (NI l i):=by rw[hNI];exact cO (by omega)
    rw[List.take_add_one,g1]
    exact List.nodup_append.2 ⟨hi2,by simp,fun a ha b hb e=>by simp at hb;subst hb;subst e;exact hni ha⟩⟩ [(0,0)] _ (by show n-(i+1)<n-i;omega) ⟨rfl,rfl,rfl,⟨rfl,trivial⟩⟩
  ·repeat (any_goals (simp only[hq];try (cbv;repeat' first|exact O5|intro β;cbv|apply O4|apply o46;done|apply h3;done|apply h3';done|apply h4;done|apply h1;done|fail)))
   apply hR;cbv;repeat' first|exact O5|intro β;cbv|apply O4|apply o46;done|apply h3;done|apply h3';done|apply h4;done|apply h1;done|fail
   refine hP [(0,0)] _ _ _ _ ?_ rfl ?_ (hQ false (fun h=>by cases h))
   ·rfl
   ·exact aP
 ·have h1:CM .lt (Int.ofNat i) (Int.ofNat n)=false:=O6;cbv;repeat' first|exact O5|intro β;cbv|apply O4|apply o46;done|apply h3;done|apply h3';done|apply h4;done|apply h1;done|fail
  repeat (any_goals (simp only[h1];try (cbv;repeat' first|exact O5|intro β;cbv|apply O4|apply o46;done|apply h3;done|apply h3';done|apply h4;done|apply h1;done|fail)))
  apply hX;cbv;repeat' first|exact O5|intro β;cbv|apply O4|apply o46;done|apply h3;done|apply h3';done|apply h4;done|apply h1;done|fail
  have hnd:l.Nodup:=by have:l.take i=l:=List.take_of_length_le (by omega);rw[this] at hi2;exact hi2
  refine hP [(0,0)] _ _ _ _ ?_ rfl ?_ (hQ true (fun _=>hnd))
  ·rfl
  ·exact aP
structure OFX where
 W:Nat→Value
 id:Int
 tm:Int
 vo:Int
 co:Int
 ix:Int
 it:Int
 data:ByteArray
 sp:Bool
 nn:Nat
 b:Nat
 off:Nat
 cap:Nat
 n:Nat
 fl:List FV
inductive O26 (x:OFX):Prop where
 |mk (h1:x.n≤4294967000) (h2:∀k,k<26→(x.W k).oneCell'=true)
def c26:cJ Pay where
 X:=OFX
 args:=fun x=>[.agg [.i .u64 x.id,.v (x.W 1),.v (x.W 2),.v (x.W 3),.v (x.W 4),.v (x.W 5),.v (x.W 6),.v (x.W 7),.v (x.W 8),.v (x.W 9),.v (x.W 10),.v (x.W 11),.v (x.W 12),.v (.string x.data),.i .u64 x.ix,.i .u64 x.it,.v (x.W 16),.v (x.W 17),.v (x.W 18),.v (x.W 19),.v (x.W 20),
  .sl 0 x.nn x.b x.off x.n x.cap,.i .u64 x.tm,.i .u64 x.vo,.i .u64 x.co,.v (x.W 25)]]
 pre:=fun x=>[.prd (.sl x.sp x.nn x.b x.off x.cap (.sl 81 4 x.n x.fl))]
 obl:=fun x=>O26 x
 nf:=1
 res:=fun x β=>.agg [.i .u64 x.id,.i .u64 0,.i .u64 x.tm,.i .u64 x.vo,.i .u64 x.co,.v (.string x.data),.i .u64 x.ix,.i .u64 x.it,.v (x.W 16),.v (x.W 17),.v (x.W 18),.v (x.W 19),.v (x.W 20),.sl 1 (β 0) (β 1) (β 2) x.n (β 3)]
 ws:=fun x β=>[.cel 1 (.prd (.sl true (β 0) (β 1) (β 2) (β 3) (.sl 81 4 x.n x.fl)))]
theorem OU:c26.ok Tryz.prog 26:=by
 refine aJ ⟨false,false⟩ (fun _=>[]) (fun _=>.nil) _ Tryz.func26 Tryz.ntmps26 rfl rfl ?_;intros;rename_i jf hjf _ _ _ _ _ _ _ _ _ _ _ _ na hna _ _ CM hC _ _ _ _ _ _ _ _ _ _ x _ _ ho _ hP;obtain⟨W,id,tm,vo,co,ix,it,data,sp,nn,b,off,cap,n,fl⟩:=x;obtain⟨hn,hW⟩:=ho;change n≤4294967000 at hn;change∀k,k<26→(W k).oneCell'=true at hW;have e1:na 0 n=n:=by rw[hna];show 0+n=n;omega
 have e2:jf [] fl=fl:=by rw[hjf];rfl
 have h1:CM .le (Int.ofNat (na 0 n)) 4294967296=true:=by rw[hC,e1];simp only[cmStd,decide_eq_true_eq,Int.ofNat_eq_natCast];omega
 have h2:CM .le (Int.ofNat n) 4294967296=true:=by rw[hC];simp only[cmStd,decide_eq_true_eq,Int.ofNat_eq_natCast];omega
 cbv;repeat' first|exact O5|intro β;cbv|apply O4|apply h1;done|apply h2;done
 all_goals first|exact hW _ (by decide)|skip
 repeat (any_goals (simp only[e1,e2];try (cbv;repeat' first|exact O5|intro β;cbv|apply O4|apply h1;done|apply h2;done)))
 all_goals first|exact hW _ (by decide)|skip
 exact hP (β 9) [(0,0),(5,0)] _ _ rfl bM
def m26 (args:List SV):SM Pay (c26.X×List Nat):=match args with
 |[.agg l]=>match bE l 0,bE l 13,bE l 14,bE l 15,bE l 21,bE l 22,bE l 23,bE l 24 with
  |id,.v (.string data),ix,it,.sl h nn b off n cap,tm,vo,co=>match bG id,bG ix,bG it,bG tm,bG vo,bG co with
   |some (_,_,id),some (_,_,ix),some (_,_,it),some (_,_,tm),some (_,_,vo),some (_,_,co)=>.rdC h fun c=>match c with
    |.prd (.sl sp _ _ _ _ (.sl _ _ _ fl))=>.ret (⟨fun k=>(bE l k).den,id,tm,vo,co,ix,it,data,sp,nn,b,off,cap,n,fl⟩,[h])|_=>.fail
   |_,_,_,_,_,_=>.fail
  |_,_,_,_,_,_,_,_=>.fail
 |_=>.fail
theorem x26:cI 26:=⟨_,Tryz.func26,rfl,by decide⟩
def r26:aN:=⟨26,1,true,c26.app m26,c26.app_ok OU m26,fun h=>by cases h⟩
theorem s53 {sp sp2:Bool} {nn b off cap nn2 b2 off2 cap2 n:Nat} {fl:List FV} {es:List EN} {K:SV→List C→Prop} (hfl:fl=entR es) (hes:es.length=n) (hn2:n≤100000)
  (hQ:K (.bl true) [.prd (.sl sp nn b off cap (.sl 81 4 n fl)),.prd (.sl sp2 nn2 b2 off2 cap2 (.sl 81 4 n fl))]) (F:HProp):
  inS Tryz.prog F 53 [.sl 0 nn b off n cap,.sl 1 nn2 b2 off2 n cap2] [.prd (.sl sp nn b off cap (.sl 81 4 n fl)),.prd (.sl sp2 nn2 b2 off2 cap2 (.sl 81 4 n fl))] K:=by
 refine aF ⟨false,false⟩ (fun _=>[]) (fun _=>.nil) Tryz.func53 Tryz.ntmps53 rfl rfl ?_;intros;rename_i NF hNF SE hE mu hmu _ _ _ _ AR hA CM hC _ _ _ _ _ _ _ _ hL _ _ hsat hP;have c1:CM .ne (Int.ofNat n) (Int.ofNat n)=false:=O6;have hnn0:0<n→∃k,nn=k+1:=by intro h0;obtain⟨w,F,hs⟩:=hsat;have:=dG (f:=.sl 81 4 n fl) rfl h0 (by show 0<4;omega) (bY (h:=0) rfl hs);exact⟨nn-1,by omega⟩
 have hnn1:0<n→∃k,nn2=k+1:=by intro h0;obtain⟨w,F,hs⟩:=hsat;have:=dG (f:=.sl 81 4 n fl) rfl h0 (by show 0<4;omega) (bY (h:=1) rfl hs);exact⟨nn2-1,by omega⟩
 cbv;repeat' first|exact O5|intro β;cbv|apply O4
 repeat (any_goals (simp only[c1];try (cbv;repeat' first|exact O5|intro β;cbv|apply O4)))
 refine hL _ {i:Nat//i≤n} (fun i j=>eO 26 j [(0,.sl 0 nn b off n cap),(1,.sl 1 nn2 b2 off2 n cap2),(4,.bl false),(12,.i .i64 n),(13,.i .i64 i.1)])
  (fun _=>[.prd (.sl sp nn b off cap (.sl 81 4 n fl)),.prd (.sl sp2 nn2 b2 off2 cap2 (.sl 81 4 n fl))]) (fun i=>n-i.1) ⟨0,by omega⟩ [(0,0),(1,0)] _ _ (by decide+kernel) ⟨by cbv,by cbv,by cbv,⟨rfl,rfl,trivial⟩⟩ ?_
 rintro⟨i,hi⟩ j LP hsat2 hLP hX hR;change i≤n at hi;rcases Nat.lt_or_ge i n with h|h
 ·obtain⟨k,rfl⟩:=hnn0 (by omega);obtain⟨k2,rfl⟩:=hnn1 (by omega);have h1:CM .lt (Int.ofNat i) (Int.ofNat n)=true:=O6;have h3:CM .le 0 (Int.ofNat i)=true:=O6;have hadd:AR .add .i64 (Int.ofNat i) 1=Int.ofNat (i+1):=by rw[hA];exact fU (by omega)
  obtain⟨e,he⟩:∃e,es[i]?=some e:=⟨es[i],by simp⟩;obtain⟨n0,n1,n2,n3⟩:=hJ es i e he;have hA0:NF fl (mu i 4)=.sc (.int .u64 e.t):=by rw[hNF,hmu,hfl];exact n0
  have hA1:NF fl (mu i 4+1)=.sc (.int .u64 e.i):=by rw[hNF,hmu,hfl];exact n1
  have hA2:NF fl (mu i 4+1+1)=.sc (.int .i64 e.k):=by rw[hNF,hmu,hfl];exact n2
  have hA3:NF fl (mu i 4+1+1+1)=.sc (.string e.s):=by rw[hNF,hmu,hfl];exact n3
  have hle:CM .le (Int.ofNat (mu i 4+4)) (Int.ofNat (mu n 4))=true:=by rw[hC,hmu];simp only[cmStd,decide_eq_true_eq,Int.ofNat_eq_natCast];omega
  have q0:CM .eq e.t e.t=true:=by rw[hC];simp[cmStd]
  have q1:CM .eq e.i e.i=true:=by rw[hC];simp[cmStd]
  have q2:CM .eq e.k e.k=true:=by rw[hC];simp[cmStd]
  have q3:SE e.s e.s=true:=by rw[hE];simp[seStd]
  obtain⟨et,ei,ek,est⟩:=e;cbv;repeat' first|exact O5|intro β;cbv|apply O4|apply h1;done|apply h3;done|apply hle;done|fail
  repeat (any_goals (simp only[h1,hA0,hA1,hA2,hA3,q0,q1,q2,q3,hadd];try (cbv;repeat' first|exact O5|intro β;cbv|apply O4|apply h1;done|apply h3;done|apply hle;done|fail)))
  exact hLP ⟨i+1,by show i+1≤n;omega⟩ [(0,0),(1,0)] _ (by show n-(i+1)<n-i;omega) ⟨rfl,rfl,rfl,⟨rfl,rfl,trivial⟩⟩
 ·have h1:CM .lt (Int.ofNat i) (Int.ofNat n)=false:=O6;cbv;repeat' first|exact O5|intro β;cbv|apply O4|apply h1;done|apply h3;done|apply hle;done|fail
  repeat (any_goals (simp only[h1];try (cbv;repeat' first|exact O5|intro β;cbv|apply O4|apply h1;done|apply h3;done|apply hle;done|fail)))
  apply hX;cbv;repeat' first|exact O5|intro β;cbv|apply O4|apply h1;done|apply h3;done|apply hle;done|fail
  refine hP [(0,0),(1,0)] _ _ _ _ ?_ rfl ?_ hQ
  ·rfl
  ·exact aP
def vA (W:Nat→Value):List SV:=[.v (W 0),.v (W 1),.v (W 2),.v (W 3),.v (W 4),.v (W 5),.v (W 6),.v (W 7),.v (W 8),.v (W 9),.v (W 10),.v (W 11),.v (W 12),.v (W 13),.v (W 14),.v (W 15),.v (W 16),.v (W 17),.v (W 18),.v (W 19),.v (W 20),.v (W 21),.v (W 22),.v (W 23),.v (W 24),.v (W 25)]
def vM (M:Nat→Value):List SV:=[.v (M 0),.v (M 1),.v (M 2),.v (M 3),.v (M 4),.v (M 5),.v (M 6),.v (M 7),.v (M 8),.v (M 9),.v (M 10),.v (M 11),.v (M 12),.v (M 13),.v (M 14),.v (M 15),.v (M 16),.v (M 17),.v (M 18),.v (M 19),.v (M 20)]
def cl28 (M:Nat→Value):List SV:=[.i .i64 4,.i .u64 0,.v (.string ⟨#[]⟩)]++(vM M++([.i .i64 0,.v (.slice none 0 0),.v (.string ⟨#[]⟩),.bl false]++
 [.i .i64 5,.i .u64 0,.v (.string ⟨#[]⟩),.i .i64 0,.i .u64 0,.i .u64 0,.i .u64 0,.i .u64 0,.i .u64 0,.i .u64 0,.i .u64 0,.i .u64 0,.v (.slice none 0 0),
 .v (.string ⟨#[]⟩),.i .u64 0,.i .u64 0,.v (.slice none 0 0),.v (.slice none 0 0),.v (.slice none 0 0),.v (.slice none 0 0),.bl false,.bl false,.v (.string ⟨#[]⟩),.v (.slice none 0 0),.i .i64 0,.v (.slice none 0 0),.v (.string ⟨#[]⟩),.bl false]))
abbrev SLV:=Option Addr×Nat×Nat
structure SDV where
 ro:Int
 ld:Int
 t:Int
 v:Int
 c:Int
 ap:Int
 tg:Int
 s9:SLV
 s10:SLV
 s11:SLV
 s12:SLV
 has:Bool
 hh:Bool
 st:Int
 sv:Int
 sc:Int
 s23:SLV
 s24:SLV
 s25:SLV
 s26:SLV
 s28:SLV
 s29:SLV
 sy:Bool
 s32:SLV
def SDV.f (x:SDV):List FV:=[.sc (.int .i64 0),.sc (.bool false),.sc (.int .i64 x.ro),.sc (.int .u64 x.ld),.sc (.int .u64 x.t),.sc (.int .u64 x.v),.sc (.int .u64 x.c),.sc (.int .u64 x.ap),.sc (.int .u64 x.tg),.sc (.slice x.s9.1 x.s9.2.1 x.s9.2.2),.sc (.slice x.s10.1 x.s10.2.1 x.s10.2.2),.sc (.slice x.s11.1 x.s11.2.1 x.s11.2.2),.sc (.slice x.s12.1 x.s12.2.1 x.s12.2.2),.sc (.bool false),.sc (.bool x.has),.sc (.bool x.hh),.sc (.int .u64 x.st),.sc (.int .u64 x.sv),.sc (.int .u64 x.sc),.sc (.slice none 0 0),.sc (.string ⟨#[]⟩),.sc (.int .u64 0),.sc (.int .u64 0),.sc (.slice x.s23.1 x.s23.2.1 x.s23.2.2),.sc (.slice x.s24.1 x.s24.2.1 x.s24.2.2),.sc (.slice x.s25.1 x.s25.2.1 x.s25.2.2),.sc (.slice x.s26.1 x.s26.2.1 x.s26.2.2),.sc (.bool false),.sc (.slice x.s28.1 x.s28.2.1 x.s28.2.2),.sc (.slice x.s29.1 x.s29.2.1 x.s29.2.2),.sc (.slice none 0 0),.sc (.bool x.sy),.sc (.slice x.s32.1 x.s32.2.1 x.s32.2.2)]
def SDV.l (x:SDV) (s29 s32:SV):List SV:=[.i .i64 0,.bl false,.i .i64 x.ro,.i .u64 x.ld,.i .u64 x.t,.i .u64 x.v,.i .u64 x.c,.i .u64 x.ap,.i .u64 x.tg,.v (.slice x.s9.1 x.s9.2.1 x.s9.2.2),.v (.slice x.s10.1 x.s10.2.1 x.s10.2.2),.v (.slice x.s11.1 x.s11.2.1 x.s11.2.2),.v (.slice x.s12.1 x.s12.2.1 x.s12.2.2),.bl false,.bl x.has,.bl x.hh,.i .u64 x.st,.i .u64 x.sv,.i .u64 x.sc,.v (.slice none 0 0),.v (.string ⟨#[]⟩),.i .u64 0,.i .u64 0,.v (.slice x.s23.1 x.s23.2.1 x.s23.2.2),.v (.slice x.s24.1 x.s24.2.1 x.s24.2.2),.v (.slice x.s25.1 x.s25.2.1 x.s25.2.2),.v (.slice x.s26.1 x.s26.2.1 x.s26.2.2),.bl false,.v (.slice x.s28.1 x.s28.2.1 x.s28.2.2),s29,.v (.slice none 0 0),.bl x.sy,s32]
theorem s28 {n:Nat} (hn3:n=3) {W M:Nat→Value} {A:HProp} {Y:Type} {B:Y→HProp} {Z0 Z1 Z2:Y→SDV} {K:SV→List C→Prop} (hW:∀k,k<26→(W k).oneCell'=true) (hM:∀k,k<21→(M k).oneCell'=true)
  (h42:∀(lb:Nat) (K':SV→List C→Prop) (F:HProp),(∀(y:Y) (n2 b2 o2 c2:Nat),K' (.sl 2 (n2+1) b2 o2 n c2) [.prd (.h (B y)),.raw true lb 44 (cl28 M),.prd (.sl true (n2+1) b2 o2 c2 (.sl 48 33 n ((Z0 y).f++((Z1 y).f++(Z2 y).f))))])→
   inS Tryz.prog F 42 [.agg (vA W),.hv 1 (.slice (some ⟨lb,0,none⟩) 2 2)] [.prd (.h A),.raw true lb 44 (cl28 M)] K')
  (hQ:∀(y:Y),K (.tup [.agg ((Z2 y).l (.v (.slice (Z2 y).s29.1 (Z2 y).s29.2.1 (Z2 y).s29.2.2)) (.v (.slice (Z2 y).s32.1 (Z2 y).s32.2.1 (Z2 y).s32.2.2))),.bl true]) [.prd (.h (B y))]) (F:HProp):
  inS Tryz.prog F 28 [.agg (vA W),.agg (vM M)] [.prd (.h A)] K:=by
 subst hn3;refine aF ⟨false,false⟩ (fun _=>[]) (fun _=>.nil) Tryz.func28 Tryz.ntmps28 rfl rfl ?_;intros;rename_i hNF _ _ _ hmu _ _ _ _ _ _ CM hC _ _ _ _ _ _ hU hI hL _ hN hsat hP;have c1:CM .ne (Int.ofNat 3) 3=false:=O6;have d2:CM .ne 0 0=false:=O6;have l1:CM .lt 1 (Int.ofNat 3)=true:=O6;have l2:CM .lt 2 (Int.ofNat 3)=true:=O6;have p1:CM .le 0 1=true:=O6;have p2:CM .le 0 2=true:=O6;cbv;repeat' first|exact O5|intro β;cbv|apply O4|apply l1;done|apply l2;done|apply p1;done|apply p2;done
 all_goals first|exact hW _ (by decide)|exact hM _ (by decide)|skip
 rename_i b0 b1 b2';refine aD hN [0,4] (by decide) rfl ?_ ?_ (fun F1=>h42 (β 0) _ F1 (fun y n2 b2 o2 c2=>?_))
 ·rfl
 ·exact⟨rfl,⟨rfl,rfl,rfl,rfl⟩,trivial⟩
 have g1:∀k,k<99→CM .lt (Int.ofNat k) (Int.ofNat (mR HMul.hMul 3 33))=true:=by intro k hk;rw[hC];show decide (Int.ofNat k<Int.ofNat 99)=true;simp only[decide_eq_true_eq,Int.ofNat_eq_natCast];omega
 have hle1:CM .le (Int.ofNat 66) (Int.ofNat 99)=true:=by rw[hC];rfl
 have hle2:CM .le (Int.ofNat 99) (Int.ofNat 99)=true:=by rw[hC];rfl
 subst hNF;subst hmu;cbv;repeat' first|exact O5|intro β;cbv|apply O4|apply l1;done|apply l2;done|apply p1;done|apply p2;done
 repeat (any_goals (simp only[c1,d2];try (cbv;repeat' first|exact O5|intro β;cbv|apply O4|apply l1;done|apply l2;done|apply p1;done|apply p2;done)))
 all_goals first|exact g1 _ (by decide)|skip
 refine hP [(0,0)] _ _ _ _ ?_ rfl ?_ (hQ y)
 ·rfl
 ·exact aP
structure NDV where
 id:Int
 ld:Int
 t:Int
 v:Int
 c:Int
 data:ByteArray
 ix:Int
 it:Int
 W:Nat→Value
 nn:Nat
 b:Nat
 off:Nat
 n:Nat
 cap:Nat
def NDV.l (x:NDV) (h:Nat):List SV:=[.i .u64 x.id,.i .u64 x.ld,.i .u64 x.t,.i .u64 x.v,.i .u64 x.c,.v (.string x.data),.i .u64 x.ix,.i .u64 x.it,.v (x.W 0),.v (x.W 1),.v (x.W 2),.v (x.W 3),.v (x.W 4),.sl h x.nn x.b x.off x.n x.cap]
def dU (ix it:Int) (es:List EN):Int×Int:=match es.getLast? with
 |none=>(ix,it)|some e=>(e.i,e.t)
theorem s49 {x:NDV} {sp:Bool} {fl:List FV} {es:List EN} {K:SV→List C→Prop} (hW:∀k,k<5→(x.W k).oneCell'=true) (hfl:fl=entR es) (hes:es.length=x.n) (hn:x.n≤2147483647)
  (hQ:K (.tup [.i .u64 (dU x.ix x.it es).1,.i .u64 (dU x.ix x.it es).2]) [.prd (.sl sp x.nn x.b x.off x.cap (.sl 81 4 x.n fl))]) (F:HProp):
  inS Tryz.prog F 49 [.agg (x.l 0)] [.prd (.sl sp x.nn x.b x.off x.cap (.sl 81 4 x.n fl))] K:=by
 obtain⟨id,ld,t,v,c,data,ix,it,W,nn,b,off,n,cap⟩:=x;change∀k,k<5→(W k).oneCell'=true at hW;change es.length=n at hes;change n≤2147483647 at hn;change K (.tup [.i .u64 (dU ix it es).1,.i .u64 (dU ix it es).2]) [.prd (.sl sp nn b off cap (.sl 81 4 n fl))] at hQ;refine aF ⟨false,false⟩ (fun _=>[]) (fun _=>.nil) Tryz.func49 Tryz.ntmps49 rfl rfl ?_;intros;rename_i NF hNF _ _ mu hmu _ _ _ _ AR hA CM hC _ _ _ _ _ _ _ _ _ _ _ hsat hP;have hnn0:0<n→∃k,nn=k+1:=by intro h0;obtain⟨w,F,hs⟩:=hsat;have:nn≠0:=dG (f:=.sl 81 4 n fl) rfl h0 (by show 0<4;omega) (bY (h:=0) rfl hs);exact⟨nn-1,by omega⟩
 rcases Nat.eq_zero_or_pos n with h0|h0
 ·have e0:es=[]:=List.length_eq_zero_iff.1 (by omega);have hl:dU ix it es=(ix,it):=by rw[e0];rfl
  rw[hl] at hQ;have c1:CM .eq (Int.ofNat n) 0=true:=O6;cbv;repeat' first|exact O5|intro β;cbv|apply O4
  all_goals first|exact hW _ (by decide)|skip
  repeat (any_goals (simp only[c1];try (cbv;repeat' first|exact O5|intro β;cbv|apply O4)))
  all_goals first|exact hW _ (by decide)|skip
  refine hP [(0,0)] _ _ _ _ ?_ rfl ?_ hQ
  ·rfl
  ·exact aP
 ·obtain⟨k,rfl⟩:=hnn0 h0;have c1:CM .eq (Int.ofNat n) 0=false:=O6;obtain⟨m,hm⟩:∃m,m=n-1:=⟨_,rfl⟩;have hsub:AR .sub .i64 (Int.ofNat n) 1=Int.ofNat m:=by rw[hA,hm];simp only[arStd,IntKind.wrap_i64,Int.ofNat_eq_natCast];omega
  have h1:CM .lt (Int.ofNat m) (Int.ofNat n)=true:=O6;have h3:CM .le 0 (Int.ofNat m)=true:=O6;obtain⟨e,he⟩:∃e,es[m]?=some e:=⟨es[m]'(by omega),by simp⟩;obtain⟨n0,n1,n2,n3⟩:=hJ es m e he;have hA0:NF fl (mu m 4)=.sc (.int .u64 e.t):=by rw[hNF,hmu,hfl];exact n0
  have hA1:NF fl (mu m 4+1)=.sc (.int .u64 e.i):=by rw[hNF,hmu,hfl];exact n1
  have hA2:NF fl (mu m 4+1+1)=.sc (.int .i64 e.k):=by rw[hNF,hmu,hfl];exact n2
  have hA3:NF fl (mu m 4+1+1+1)=.sc (.string e.s):=by rw[hNF,hmu,hfl];exact n3
  have hle:CM .le (Int.ofNat (mu m 4+4)) (Int.ofNat (mu n 4))=true:=by rw[hC,hmu];simp only[cmStd,decide_eq_true_eq,Int.ofNat_eq_natCast];omega
  have hl:dU ix it es=(e.i,e.t):=by unfold dU;rw[List.getLast?_eq_getElem?,hes,←hm,he]
  rw[hl] at hQ;obtain⟨et,ei,ek,est⟩:=e;cbv;repeat' first|exact O5|intro β;cbv|apply O4|apply h1;done|apply h3;done|apply hle;done|fail
  all_goals first|exact hW _ (by decide)|skip
  repeat (any_goals (simp only[c1,hsub,hA0,hA1,hA2,hA3];try (cbv;repeat' first|exact O5|intro β;cbv|apply O4|apply h1;done|apply h3;done|apply hle;done|fail)))
  all_goals first|exact h3|exact h1|exact hle|exact hW _ (by decide)|skip
  refine hP [(0,0)] _ _ _ _ ?_ rfl ?_ hQ
  ·rfl
  ·exact aP
theorem s51 {x y:NDV} {sp:Bool} {fl:List FV} {tm ld:Int} {K:SV→List C→Prop} (hW:∀k,k<5→(x.W k).oneCell'=true)
  (hy:y={x with t:=if x.t<tm then tm else x.t,v:=if x.t<tm then 0 else x.v,ld:=ld})
  (hQ:K (.agg (y.l 0)) [.prd (.sl sp x.nn x.b x.off x.cap (.sl 81 4 x.n fl))]) (F:HProp):
  inS Tryz.prog F 51 [.agg (x.l 0),.i .u64 tm,.i .u64 ld] [.prd (.sl sp x.nn x.b x.off x.cap (.sl 81 4 x.n fl))] K:=by
 obtain⟨id,ld0,t,v,c,data,ix,it,W,nn,b,off,n,cap⟩:=x;change∀k,k<5→(W k).oneCell'=true at hW;dsimp only at hy;refine aF ⟨false,false⟩ (fun _=>[]) (fun _=>.nil) Tryz.func51 Tryz.ntmps51 rfl rfl ?_;intros;rename_i CM hC _ _ _ _ _ _ _ _ _ _ _ _ hP;rcases h:CM .lt t tm with _|_
 ·have h1:¬t<tm:=by rw[hC] at h;simpa [cmStd] using h
  rw[if_neg h1,if_neg h1] at hy;subst hy;cbv;repeat' first|exact O5|intro β;cbv|apply O4
  all_goals first|exact hW _ (by decide)|skip
  repeat (any_goals (simp only[h];try (cbv;repeat' first|exact O5|intro β;cbv|apply O4)))
  all_goals first|exact hW _ (by decide)|skip
  refine hP [(0,0)] _ _ _ _ ?_ rfl ?_ hQ
  ·rfl
  ·exact aP
 ·have h1:t<tm:=by rw[hC] at h;simpa [cmStd] using h
  rw[if_pos h1,if_pos h1] at hy;subst hy;cbv;repeat' first|exact O5|intro β;cbv|apply O4
  all_goals first|exact hW _ (by decide)|skip
  repeat (any_goals (simp only[h];try (cbv;repeat' first|exact O5|intro β;cbv|apply O4)))
  all_goals first|exact hW _ (by decide)|skip
  refine hP [(0,0)] _ _ _ _ ?_ rfl ?_ hQ
  ·rfl
  ·exact aP
structure X29 where
 x:SDV
 w29:Value
 y:NDV
 sp:Bool
 nn:Nat
 b:Nat
 off:Nat
 n:Nat
 cap:Nat
 fl:List FV
 sp2:Bool
 fl2:List FV
inductive O29 (a:X29):Prop where
 |mk (h1:a.x.ro=0) (h2:a.x.ld=a.y.ld) (h3:a.x.t=a.y.t) (h4:a.x.v=a.y.v) (h5:a.x.c=a.y.c) (h6:∀k,k<5→(a.y.W k).oneCell'=true) (h7:a.w29.oneCell'=true)
  (h8:a.x.has=true→a.n=a.y.n∧a.fl=a.fl2∧∃es:List EN,a.fl=entR es∧es.length=a.n∧a.n≤100000)
def c29:cJ Pay where
 X:=X29
 args:=fun a=>[.agg (a.x.l (.v a.w29) (.sl 0 a.nn a.b a.off a.n a.cap)),.agg (a.y.l 1)]
 pre:=fun a=>[.prd (.sl a.sp a.nn a.b a.off a.cap (.sl 81 4 a.n a.fl)),.prd (.sl a.sp2 a.y.nn a.y.b a.y.off a.y.cap (.sl 81 4 a.y.n a.fl2))]
 obl:=fun a=>O29 a
 res:=fun a β=>.bl true
theorem OJ:c29.ok Tryz.prog 29:=by
 refine aJ ⟨false,false⟩ (fun _=>[]) (fun _=>.nil) _ Tryz.func29 Tryz.ntmps29 rfl rfl ?_;intros;rename_i CM hC _ _ _ _ _ _ _ _ _ _ x _ hN ho _ hP;obtain⟨⟨ro,ld,t,v,c,ap,tg,s9,s10,s11,s12,has,hh,st,sv,sc,s23,s24,s25,s26,s28,s29,sy,s32⟩,w29,⟨id,ld2,t2,v2,co2,data,ix,it,W,nn2,b2,off2,n2,cap2⟩,sp,nn,b,off,n,cap,fl,sp2,fl2⟩:=x;obtain⟨h1,h2,h3,h4,h5,h6,h7,h8⟩:=ho;change ro=0 at h1;change ld=ld2 at h2;change t=t2 at h3;change v=v2 at h4;change c=co2 at h5;change∀k,k<5→(W k).oneCell'=true at h6;change w29.oneCell'=true at h7;change has=true→n=n2∧fl=fl2∧∃es:List EN,fl=entR es∧es.length=n∧n≤100000 at h8;subst h1;subst h2;subst h3;subst h4;subst h5;have q0:CM .eq 0 0=true:=by rw[hC];rfl
 have q1:CM .eq ld ld=true:=by rw[hC];simp[cmStd]
 have q2:CM .eq t t=true:=by rw[hC];simp[cmStd]
 have q3:CM .eq v v=true:=by rw[hC];simp[cmStd]
 have q4:CM .eq c c=true:=by rw[hC];simp[cmStd]
 cases has with
 |false=>
  cbv;repeat' first|exact O5|intro β;cbv|apply O4
  all_goals first|exact h6 _ (by decide)|exact h7|skip
  repeat (any_goals (simp only[q0,q1,q2,q3,q4];try (cbv;repeat' first|exact O5|intro β;cbv|apply O4)))
  all_goals first|exact h6 _ (by decide)|exact h7|skip
  exact hP (fun _=>0) [(0,0),(1,0)] _ _ rfl bM
 |true=>
  obtain⟨e1,e2,es,hfl,hes,hn⟩:=h8 rfl;subst e1;subst e2;have hB:=fun K' F' u=>s53 (sp:=sp) (nn:=nn) (b:=b) (off:=off) (cap:=cap) (sp2:=sp2) (nn2:=nn2) (b2:=b2) (off2:=off2) (cap2:=cap2) (n:=n) (fl:=fl) (es:=es) (K:=K') hfl hes hn u F';cbv;repeat' first|exact O5|intro β;cbv|apply O4
  all_goals first|exact h6 _ (by decide)|exact h7|skip
  repeat (any_goals (simp only[q0,q1,q2,q3,q4];try (cbv;repeat' first|exact O5|intro β;cbv|apply O4)))
  all_goals first|exact h6 _ (by decide)|exact h7|skip
  refine aD hN [0,1] (by decide) rfl ?_ ?_ (fun F1=>hB _ F1 ?_)
  ·rfl
  ·exact⟨rfl,rfl,trivial⟩
  cbv;repeat' first|exact O5|intro β;cbv|apply O4
  repeat (any_goals (simp only[q0];try (cbv;repeat' first|exact O5|intro β;cbv|apply O4)))
  exact hP (fun _=>0) [(0,0),(1,0)] _ _ rfl bM
def qB:SV→SLV
 |.v (.slice a n c)=>(a,n,c)|.hv _ (.slice a n c)=>(a,n,c)|.sl _ nn b off n cap=>(slA nn b off,n,cap)|_=>(none,0,0)
def jL (x:SV):Int:=match bG x with
 |some (_,_,n)=>n|none=>0
def blS:SV→Bool
 |.bl b=>b|_=>false
def strS:SV→ByteArray
 |.v (.string s)=>s|_=>⟨#[]⟩
def sdS (l:List SV):SDV:=⟨jL (bE l 2),jL (bE l 3),jL (bE l 4),jL (bE l 5),jL (bE l 6),jL (bE l 7),jL (bE l 8),qB (bE l 9),qB (bE l 10),qB (bE l 11),qB (bE l 12),blS (bE l 14),blS (bE l 15),jL (bE l 16),jL (bE l 17),jL (bE l 18),
 qB (bE l 23),qB (bE l 24),qB (bE l 25),qB (bE l 26),qB (bE l 28),qB (bE l 29),blS (bE l 31),qB (bE l 32)⟩
def ndS (l:List SV) (nn b off n cap:Nat):NDV:=⟨jL (bE l 0),jL (bE l 1),jL (bE l 2),jL (bE l 3),jL (bE l 4),strS (bE l 5),jL (bE l 6),jL (bE l 7),fun k=>(bE l (k+8)).den,nn,b,off,n,cap⟩
def m29 (args:List SV):SM Pay (c29.X×List Nat):=match args with
 |[.agg l,.agg l2]=>match bE l 32,bE l2 13 with
  |.sl h nn b off n cap,.sl h2 nn2 b2 off2 n2 cap2=>.rdC h fun c=>.rdC h2 fun d=>match c,d with
   |.prd (.sl sp _ _ _ _ (.sl _ _ _ fl)),.prd (.sl sp2 _ _ _ _ (.sl _ _ _ fl2))=>.ret (⟨sdS l,(bE l 29).den,ndS l2 nn2 b2 off2 n2 cap2,sp,nn,b,off,n,cap,fl,sp2,fl2⟩,[h,h2])|_,_=>.fail
  |_,_=>.fail
 |_=>.fail
theorem x29:cI 29:=⟨_,Tryz.func29,rfl,by decide⟩
def r29:aN:=⟨29,0,true,c29.app m29,c29.app_ok OJ m29,fun h=>by cases h⟩
def cR.rows (e:cR):List C:=[e.zC,e.V.cel,e.L.cel,e.O.cel,e.X.cel,e.logC]
structure cR.frz (e:cR):Prop where
 z:e.z.sp=false
 V:e.V.sp=false
 L:e.L.sp=false
 O:e.O.sp=false
 X:e.X.sp=false
 g:e.lsp=false
theorem kY {nn b off cap:Nat} {f:FV}:aU (Cel.den (.prd (.sl false nn b off cap f):C)):=by show aU (star (f.row nn b off cap) emp);rw[aO];exact aU.row _ _ _ _ _
theorem aU.nil:aU (big ([]:List C)):=aU.emp
theorem aU.cons {c:C} {r:List C} (h:aU c.den) (h2:aU (big r)):aU (big (c::r)):=aU.star h h2
theorem cR.frz.pers {e:cR} (h:e.frz):aU (big e.rows):=by obtain⟨id,et,ht,⟨zp,zn,zb,zo,zl,zc,Z⟩,pv,cq,ls,nf,sd,ms,mc,mi,data,ix,it,⟨vp,vnn,vb,vof,vcap,vn,V⟩,⟨lp,lnn',lb',lof,lcap,en',L⟩,⟨op',onn,ob,oof,ocap,on,O⟩,⟨xp,xnn,xb,xof,xcap,xn,X⟩,lsp,lnn,lb,lo,lc,en,es,fl,tm,vo,co,ap⟩:=e;obtain⟨h1,h2,h3,h4,h5,h6⟩:=h;change zp=false at h1;change vp=false at h2;change lp=false at h3;change op'=false at h4;change xp=false at h5;change lsp=false at h6;subst h1;subst h2;subst h3;subst h4;subst h5;subst h6;exact aU.cons kY (aU.cons kY (aU.cons kY (aU.cons kY (aU.cons kY (aU.cons kY aU.nil)))))
theorem wC {w:World} {H:HProp} (T sz:Nat) (h:sat w H):sat w (star (Cel.den (.prd (.sl true 0 0 0 0 (.sl T sz 0 [])):C)) H):=by show sat w (star (star (exi fun ps:List Value=>star (pure' (ps.length=0*sz)) (star (pure' (ps=[]∧0=0)) (FV.dens [] ps))) emp) H);rw[aO,aL];refine⟨[],?_⟩;simp only[aA];refine aZ (by simp) (aZ (by simp) ?_);simpa [FV.dens,aH] using h
structure Y28 where
 nb:Nat
 β:NN
 γ:NN
 δ:NN
 a9:SLV
 a10:SLV
 a11:SLV
 a12:SLV
 b9:SLV
 b10:SLV
 b11:SLV
 b12:SLV
 e9:SLV
 e10:SLV
 e11:SLV
 e12:SLV
def uT:SLV:=(none,0,0)
def sdZ (i:IS) (s9 s10 s11 s12:SLV):SDV:=⟨i.ro,i.ld,i.t,i.v,i.c,i.ap,i.tg,s9,s10,s11,s12,false,false,0,0,0,uT,uT,uT,uT,uT,uT,false,uT⟩
def rJ (δ:NN) (k:Nat):SLV:=(slA (δ k) (δ (k+1)) (δ (k+2)),δ (k+3),δ (k+4))
def sdW (e:cR) (p:PW) (c:Nat) (δ:NN) (s9 s10 s11 s12:SLV):SDV:=match c with
 |3=>sdZ (i2 p) s9 s10 s11 s12|0=>⟨(i2 p).ro,(i2 p).ld,(i2 p).t,(i2 p).v,(i2 p).c,(i2 p).ap,(i2 p).tg,s9,s10,s11,s12,true,(srE e p).hh,(srE e p).t,(srE e p).v,(srE e p).c,rJ δ 0,rJ δ 5,rJ δ 10,rJ δ 15,rJ δ 20,uT,(srE e p).sy,(slA (δ 29) (δ 30) (δ 31),e.ln,δ 32)⟩|_=>⟨(i2 p).ro,(i2 p).ld,(i2 p).t,(i2 p).v,(i2 p).c,(i2 p).ap,(i2 p).tg,s9,s10,s11,s12,true,(srE e p).hh,(srE e p).t,(srE e p).v,(srE e p).c,rJ δ 0,rJ δ 5,rJ δ 10,rJ δ 15,rJ δ 20,(slA (δ 25) (δ 26) (δ 27),1,δ 28),(srE e p).sy,(slA (δ 29) (δ 30) (δ 31),e.ln,δ 32)⟩
def tT.M (m:tT) (sx:ByteArray) (k:Nat):Value:=(bE (E2 (m.arg sx)) k).den
theorem cR.W_one (e:cR):∀k,k<26→(e.W k).oneCell'=true:=fun k hk=>(match k,hk with|0,_=>rfl|1,_=>rfl|2,_=>rfl|3,_=>rfl|4,_=>rfl|5,_=>rfl|6,_=>rfl|7,_=>rfl|8,_=>rfl|9,_=>rfl|10,_=>rfl|11,_=>rfl|12,_=>rfl|13,_=>rfl|14,_=>rfl|15,_=>rfl|16,_=>rfl|17,_=>rfl|18,_=>rfl|19,_=>rfl|20,_=>rfl|21,_=>rfl|22,_=>rfl|23,_=>rfl|24,_=>rfl|25,_=>rfl|n+26,h=>absurd h (by omega))
theorem tT.M_one (m:tT) (sx:ByteArray):∀k,k<21→(m.M sx k).oneCell'=true:=fun k hk=>(match k,hk with|0,_=>rfl|1,_=>rfl|2,_=>rfl|3,_=>rfl|4,_=>rfl|5,_=>rfl|6,_=>rfl|7,_=>rfl|8,_=>rfl|9,_=>rfl|10,_=>rfl|11,_=>rfl|12,_=>rfl|13,_=>rfl|14,_=>rfl|15,_=>rfl|16,_=>rfl|17,_=>rfl|18,_=>rfl|19,_=>rfl|20,_=>rfl|n+21,h=>absurd h (by omega))
theorem sdW_f {e:cR} {p:PW} {c:Nat} (hc:c=0∨c=1∨c=2∨c=3) (δ:NN) (s9 s10 s11 s12:SLV):
  sdF (Z2k e p c δ) (i2 p) (.slice s9.1 s9.2.1 s9.2.2) (.slice s10.1 s10.2.1 s10.2.2) (.slice s11.1 s11.2.1 s11.2.2) (.slice s12.1 s12.2.1 s12.2.2)=(sdW e p c δ s9 s10 s11 s12).f:=by
 rcases hc with rfl|rfl|rfl|rfl<;>rfl
theorem LO (i:IS) (s9 s10 s11 s12:SLV):sdF zZ i (.slice s9.1 s9.2.1 s9.2.2) (.slice s10.1 s10.2.1 s10.2.2) (.slice s11.1 s11.2.1 s11.2.2) (.slice s12.1 s12.2.1 s12.2.2)=(sdZ i s9 s10 s11 s12).f:=rfl
theorem bK.slv {v:Value} (h:bK v):∃s:SLV,v=.slice s.1 s.2.1 s.2.2:=by obtain⟨a,b,c,d,e,rfl⟩:=h;exact⟨(slA a b c,d,e),rfl⟩
theorem inS.frs {P:Program} {F:HProp} {n:FuncId} {args args':List SV} {h0 h1:List C} {G:HProp} {K:SV→List C→Prop} (ha:SV.dens args'=SV.dens args) (he:∀(w:World) (H:HProp),sat w (star (big h0) H)→sat w (star (big h1) (star G H)))
  (h:inS P (star G F) n args h1 fun v hp=>(∃(w:World) (H:HProp),sat w (star (big hp) (star G H)))→∃v' hp',K v' hp'∧v'.den=v.den∧∀(w:World) (H:HProp),sat w (star (big hp) (star G H))→sat w (star (big hp') H)):inS P F n args' h0 K:=
 ⟨h.1,fun w hs=>by
  rw[ha]
  exact(h.2 w (he w F hs)).mono fun e w' hR=>hR.imp id fun⟨v,hp,hk,h2,h3⟩=>let ⟨v',hp',k,e1,f⟩:=hk ⟨w',F,h3⟩;⟨v',hp',k,by rw[e1];exact h2,f w' F h3⟩⟩
structure SDP (e:cR) (p:PW) (c:Nat) (x:SDV) (sn ns:Nat) (sf:List FV) (nl:Nat) (les:List EN):Prop where
 ro:x.ro=0
 ld:x.ld=p.LD
 t:x.t=p.T
 v:x.v=p.VO
 co:x.c=p.CO
 row:x.has=true→nl=e.ln∧les=e.es
 sv:x.has=true→x.hh=(srE e p).hh∧x.st=(srE e p).t∧x.sv=(srE e p).v∧x.sc=(srE e p).c∧x.sy=(srE e p).sy
 h3:c≠3→x.has=true
 se:c=1∨c=2→sn≠0∧ns=1∧sf=p.mf.r (tfStd.t p.mf.d)
 s0:c=0∨c=3→ns=0
theorem s28m {e:cR} {p:PW} {c:Nat} {m:tT} {sx:ByteArray} {K:SV→List C→Prop} (hfz:e.frz) (hd:(CS e p c m sx).ok) (hc:c=0∨c=1∨c=2∨c=3)
  (hQ:∀(x:SDV) (sn sb so sc ns:Nat) (sf:List FV) (ln' lb' lo' lc' nl:Nat) (les:List EN),SDP e p c x sn ns sf nl les→
   K (.tup [.agg (x.l (.sl 6 sn sb so ns sc) (.sl 7 ln' lb' lo' nl lc')),.bl true]) (e.rows++[.prd (.sl true sn sb so sc (.sl 38 21 ns sf)),.prd (.sl true ln' lb' lo' lc' (.sl 81 4 nl (entR les)))])) (F:HProp):
  inS Tryz.prog F 28 [.agg (e.cs 0 1 2 3 4 5),m.arg sx] e.rows K:=by
 refine inS.frs (h1:=[.prd (.h (big e.rows))]) (G:=big e.rows) (args:=[.agg (vA e.W),.agg (vM (m.M sx))]) rfl ?_ (s28 (n:=3) rfl (W:=e.W) (M:=m.M sx) (A:=big e.rows) (Y:=Y28) (B:=fun y=>B2k e p c y.nb y.β y.δ)
  (Z0:=fun y=>sdZ (CS e p c m sx).i0 y.a9 y.a10 y.a11 y.a12) (Z1:=fun y=>sdZ (CS e p c m sx).i1 y.b9 y.b10 y.b11 y.b12) (Z2:=fun y=>sdW e p c y.δ y.e9 y.e10 y.e11 y.e12) e.W_one (m.M_one sx) (fun lb K' F' hk=>?_) (fun y hsat=>?_) _)
 ·intro w H hs;have:=lA hfz.pers hs;show sat w (star (star (big e.rows) emp) (star (big e.rows) H));rw[aO];exact this
 ·refine inS.frs (h1:=[.prd (.h (CS e p c m sx).A),.raw true lb 44 (vC (CS e p c m sx).C1++vC (CS e p c m sx).C2)]) (G:=emp) (args:=[.agg (vA (CS e p c m sx).W),.hv 1 (.slice (some ⟨lb,0,none⟩) 2 2)]) rfl (fun w H hs=>by rw[aH];exact hs)
   (s42 hd (fun nb β γ δ a9 a10 a11 a12 b9 b10 b11 b12 e9 e10 e11 e12 n2 b2 o2 c2 hone hsat=>?_) _)
  obtain⟨h1,h2,h3,h4,h5,h6,h7,h8,h9,h10,h11,h12⟩:=hone;obtain⟨a9,rfl⟩:=h1.slv;obtain⟨a10,rfl⟩:=h2.slv;obtain⟨a11,rfl⟩:=h3.slv;obtain⟨a12,rfl⟩:=h4.slv;obtain⟨b9,rfl⟩:=h5.slv;obtain⟨b10,rfl⟩:=h6.slv;obtain⟨b11,rfl⟩:=h7.slv;obtain⟨b12,rfl⟩:=h8.slv;obtain⟨e9,rfl⟩:=h9.slv;obtain⟨e10,rfl⟩:=h10.slv;obtain⟨e11,rfl⟩:=h11.slv;obtain⟨e12,rfl⟩:=h12.slv;have hnn:∃k,n2=k+1:=by obtain⟨w,H,hs⟩:=hsat;have:n2≠0:=dG rfl (by show 0<3;omega) (by show 0<33;omega) (bY (h:=2) rfl hs);exact⟨n2-1,by omega⟩
  obtain⟨k,rfl⟩:=hnn;refine⟨_,_,hk ⟨nb,β,γ,δ,a9,a10,a11,a12,b9,b10,b11,b12,e9,e10,e11,e12⟩ k b2 o2 c2,rfl,fun w H h0=>?_⟩;rw[aH] at h0;dsimp only;rw[←sdW_f hc,←LO,←LO];exact h0
 ·have hx:∀{f:NS→HProp} {pp:NS→Prop} {w:World} {G H:HProp},sat w (star (big ([.prd (.h (HX pp fun q=>star (f q) G))]:List C)) H)→sat w (star G H):=by
   intro f pp w G H h0;have h1:sat w (star (HX pp (fun q=>star (f q) G)) H):=by have h2:sat w (star (star (HX pp (fun q=>star (f q) G)) emp) H):=h0;rw[aO] at h2;exact h2
   obtain⟨q,_,h2⟩:=j7.1 h1;rw[aA] at h2;exact h2.snd
  have hsn:c=1∨c=2→y.δ 25≠0:=by
   rintro(rfl|rfl)
   all_goals
    obtain⟨w,H,hs⟩:=hsat;have h1:=hx hs;rw[aA] at h1;exact dG rfl (by show 0<1;omega) (by show 0<21;omega) (bY (h:=0) rfl h1)
  rcases hc with rfl|rfl|rfl|rfl
  ·refine⟨_,_,hQ (sdW e p 0 y.δ y.e9 y.e10 y.e11 y.e12) 0 0 0 0 0 [] (y.δ 29) (y.δ 30) (y.δ 31) (y.δ 32) e.ln e.es ⟨rfl,rfl,rfl,rfl,rfl,fun _=>⟨rfl,rfl⟩,fun _=>⟨rfl,rfl,rfl,rfl,rfl⟩,fun _=>rfl,fun h=>by omega,fun _=>rfl⟩,rfl,fun w H h0=>?_⟩;have h1:=hx h0;rw[bF];refine aI (wC 38 21 h1) ?_;show _=star (star (big e.rows) (star _ (star _ emp))) H;simp only[DK,big,aO];ac_rfl
  ·refine⟨_,_,hQ (sdW e p 1 y.δ y.e9 y.e10 y.e11 y.e12) (y.δ 25) (y.δ 26) (y.δ 27) (y.δ 28) 1 (p.mf.r (tfStd.t p.mf.d)) (y.δ 29) (y.δ 30) (y.δ 31) (y.δ 32) e.ln e.es ⟨rfl,rfl,rfl,rfl,rfl,fun _=>⟨rfl,rfl⟩,fun _=>⟨rfl,rfl,rfl,rfl,rfl⟩,fun _=>rfl,fun h=>⟨hsn h,rfl,rfl⟩,fun h=>by omega⟩,rfl,fun w H h0=>?_⟩;have h1:=hx h0;rw[bF];refine aI h1 ?_;show _=star (star (big e.rows) (star _ (star _ emp))) H;simp only[DK,EH,big,aO];ac_rfl
  ·refine⟨_,_,hQ (sdW e p 2 y.δ y.e9 y.e10 y.e11 y.e12) (y.δ 25) (y.δ 26) (y.δ 27) (y.δ 28) 1 (p.mf.r (tfStd.t p.mf.d)) (y.δ 29) (y.δ 30) (y.δ 31) (y.δ 32) e.ln e.es ⟨rfl,rfl,rfl,rfl,rfl,fun _=>⟨rfl,rfl⟩,fun _=>⟨rfl,rfl,rfl,rfl,rfl⟩,fun _=>rfl,fun h=>⟨hsn h,rfl,rfl⟩,fun h=>by omega⟩,rfl,fun w H h0=>?_⟩;have h1:=hx h0;rw[bF];refine aI h1 ?_;show _=star (star (big e.rows) (star _ (star _ emp))) H;simp only[DK,EH,big,aO];ac_rfl
  ·refine⟨_,_,hQ (sdW e p 3 y.δ y.e9 y.e10 y.e11 y.e12) 0 0 0 0 0 [] 0 0 0 0 0 [] ⟨rfl,rfl,rfl,rfl,rfl,(fun h=>by cases h),(fun h=>by cases h),fun h=>absurd rfl h,(fun h=>by omega),fun _=>rfl⟩,rfl,fun w H h0=>?_⟩;have h1:=hx h0;rw[bF];refine aI (wC 81 4 (wC 38 21 h1)) ?_;show _=star (star (big e.rows) (star _ (star _ emp))) H;simp only[big,aO,aH];show _=star (star (big e.rows) (star _ (Cel.den (.prd (.sl true 0 0 0 0 (.sl 81 4 0 [])):C)))) H;ac_rfl
theorem s55 {sp:Bool} {nn b off cap n:Nat} {fl:List FV} {es:List EN} {K:SV→List C→Prop} (hfl:fl=entR es) (hes:es.length=n)
  (hQ:∀q:Bool,(q=true→n≤2147483647)→K (.bl q) [.prd (.sl sp nn b off cap (.sl 81 4 n fl))]) (F:HProp):
  inS Tryz.prog F 55 [.sl 0 nn b off n cap] [.prd (.sl sp nn b off cap (.sl 81 4 n fl))] K:=by
 refine aF ⟨false,false⟩ (fun _=>[]) (fun _=>.nil) Tryz.func55 Tryz.ntmps55 rfl rfl ?_;intros;rename_i NF hNF _ _ mu hmu TX _ _ _ AR hA CM hC _ _ _ _ _ _ _ hI hL _ _ hsat hP;have hnn0:0<n→∃k,nn=k+1:=by intro h0;obtain⟨w,F,hs⟩:=hsat;have:=dG (f:=.sl 81 4 n fl) rfl h0 (by show 0<4;omega) (bY (h:=0) rfl hs);exact⟨nn-1,by omega⟩
 obtain⟨tz,tls,tt,to0,apx⟩:=TX;cbv;repeat' first|exact O5|intro β;cbv|apply O4
 rcases hbig:CM .lt 2147483647 (Int.ofNat n) with _|_
 rotate_left
 ·repeat (any_goals (simp only[hbig];try (cbv;repeat' first|exact O5|intro β;cbv|apply O4)))
  refine hP [(0,0)] _ _ _ _ ?_ rfl ?_ (hQ false (fun h=>by cases h))
  ·rfl
  ·exact aP
 have hbn:n≤2147483647:=by rw[hC] at hbig;simp only[cmStd,decide_eq_false_iff_not,Int.ofNat_eq_natCast] at hbig;omega
 repeat (any_goals (simp only[hbig];try (cbv;repeat' first|exact O5|intro β;cbv|apply O4)))
 refine hL _ {i:Nat//i≤n} (fun i j=>eO 18 j [(0,.sl 0 nn b off n cap),(2,.bl false),(8,.sl 0 nn b off n cap),(9,.i .i64 n),(10,.i .i64 i.1)])
  (fun _=>[.prd (.sl sp nn b off cap (.sl 81 4 n fl))]) (fun i=>n-i.1) ⟨0,by omega⟩ [(0,0)] _ _ (by decide+kernel) ⟨by cbv,by cbv,by cbv,⟨rfl,trivial⟩⟩ ?_
 rintro⟨i,hi⟩ j LP hsat2 hLP hX hR;change i≤n at hi;rcases Nat.lt_or_ge i n with h|h
 ·obtain⟨k,rfl⟩:=hnn0 (by omega);have h1:CM .lt (Int.ofNat i) (Int.ofNat n)=true:=O6;have h3:CM .le 0 (Int.ofNat i)=true:=O6;have hadd:AR .add .i64 (Int.ofNat i) 1=Int.ofNat (i+1):=by rw[hA];exact fU (by omega)
  obtain⟨e,he⟩:∃e,es[i]?=some e:=⟨es[i],by simp⟩;obtain⟨n0,n1,n2,n3⟩:=hJ es i e he;have hA0:NF fl (mu i 4)=.sc (.int .u64 e.t):=by rw[hNF,hmu,hfl];exact n0
  have hA1:NF fl (mu i 4+1)=.sc (.int .u64 e.i):=by rw[hNF,hmu,hfl];exact n1
  have hA2:NF fl (mu i 4+1+1)=.sc (.int .i64 e.k):=by rw[hNF,hmu,hfl];exact n2
  have hA3:NF fl (mu i 4+1+1+1)=.sc (.string e.s):=by rw[hNF,hmu,hfl];exact n3
  have hle:CM .le (Int.ofNat (mu i 4+4)) (Int.ofNat (mu n 4))=true:=by rw[hC,hmu];simp only[cmStd,decide_eq_true_eq,Int.ofNat_eq_natCast];omega
  cbv;repeat' first|exact O5|intro β;cbv|apply O4|apply h1;done|apply h3;done|apply hle;done|fail
  repeat (any_goals (simp only[h1,hA0,hA1,hA2,hA3];try (cbv;repeat' first|exact O5|intro β;cbv|apply O4|apply h1;done|apply h3;done|apply hle;done|fail)))
  repeat (first|(refine inl @hI Tryz.func75 Tryz.ntmps75 rfl rfl ?_;cbv;repeat' first|exact O5|intro β;cbv|apply O4|apply h1;done|apply h3;done|apply hle;done|fail))
  rcases hz:CM .lt 2147483647 (Int.ofNat (tz e.s)) with _|_
  ·repeat (any_goals (simp only[hz,hadd];try (cbv;repeat' first|exact O5|intro β;cbv|apply O4|apply h1;done|apply h3;done|apply hle;done|fail)))
   exact hLP ⟨i+1,by show i+1≤n;omega⟩ [(0,0)] _ (by show n-(i+1)<n-i;omega) ⟨rfl,rfl,rfl,⟨rfl,trivial⟩⟩
  ·repeat (any_goals (simp only[hz];try (cbv;repeat' first|exact O5|intro β;cbv|apply O4|apply h1;done|apply h3;done|apply hle;done|fail)))
   apply hR;cbv;repeat' first|exact O5|intro β;cbv|apply O4|apply h1;done|apply h3;done|apply hle;done|fail
   refine hP [(0,0)] _ _ _ _ ?_ rfl ?_ (hQ false (fun h=>by cases h))
   ·rfl
   ·exact aP
 ·have h1:CM .lt (Int.ofNat i) (Int.ofNat n)=false:=O6;cbv;repeat' first|exact O5|intro β;cbv|apply O4|apply h1;done|apply h3;done|apply hle;done|fail
  repeat (any_goals (simp only[h1];try (cbv;repeat' first|exact O5|intro β;cbv|apply O4|apply h1;done|apply h3;done|apply hle;done|fail)))
  apply hX;cbv;repeat' first|exact O5|intro β;cbv|apply O4|apply h1;done|apply h3;done|apply hle;done|fail
  refine hP [(0,0)] _ _ _ _ ?_ rfl ?_ (hQ true (fun _=>hbn))
  ·rfl
  ·exact aP
structure iT where
 id:Int
 et:Int
 ht:Int
 z:ZF
 pv:Bool
 cq:Bool
 ls:Bool
 nf:Bool
 sd:Bool
 ms:Int
 mc:Int
 mu:Int
 mi:Int
 data:ByteArray
 ix:Int
 it:Int
 V:UL
 L:UL
 O:UL
 X:UL
 al:Bool
 lsp:Bool
 lnn:Nat
 lb:Nat
 lo:Nat
 lc:Nat
 ln:Nat
 es:List EN
 fl:List FV
 tm:Int
 vo:Int
 co:Int
 ap:Int
def iT.logC (s:iT):C:=.prd (.sl s.lsp s.lnn s.lb s.lo s.lc (.sl 81 4 s.ln s.fl))
def iT.zC (s:iT):C:=.prd (.sl s.z.sp s.z.n s.z.b s.z.o s.z.c (.ul 3 .i64 s.z.l s.z.Z))
def iT.cs (s:iT) (h1 h2 h3 h4 h5 h6:Nat):List SV:=[.i .u64 s.id,.i .i64 s.et,.i .i64 s.ht,.sl h1 s.z.n s.z.b s.z.o s.z.l s.z.c,.bl s.pv,.bl s.cq,.bl s.ls,.bl s.nf,.bl s.sd,.i .u64 s.ms,.i .u64 s.mc,.i .u64 s.mu,.i .i64 s.mi,
 .v (.string s.data),.i .u64 s.ix,.i .u64 s.it,s.V.sv h2,s.L.sv h3,s.O.sv h4,s.X.sv h5,.bl s.al,.sl h6 s.lnn s.lb s.lo s.ln s.lc,.i .u64 s.tm,.i .u64 s.vo,.i .u64 s.co,.i .u64 s.ap]
def iT.cells (s:iT):List C:=[s.zC,s.V.cel,s.L.cel,s.O.cel,s.X.cel,s.logC]
structure iT.fit (s:iT):Prop where
 ln0:s.ln≤2147483647
 z0:s.z.l≤2147483647
 V0:s.V.n≤2147483647
 L0:s.L.n≤2147483647
 O0:s.O.n≤2147483647
 X0:s.X.n≤2147483647
theorem s19 {s:iT} {K:SV→List C→Prop} (hfl:s.fl=entR s.es) (hes:s.es.length=s.ln) (hQ:∀q:Bool,(q=true→s.fit)→K (.bl q) s.cells) (F:HProp):inS Tryz.prog F 19 [.agg (s.cs 0 1 2 3 4 5)] s.cells K:=by
 obtain⟨id,et,ht,⟨zp,zn,zb,zo,zl,zc,Z⟩,pv,cq,ls,nf,sd,ms,mc,mu',mi,data,ix,it,⟨vp,vnn,vb,vof,vcap,vn,V⟩,⟨lp,lnn',lb',lof,lcap,en',L⟩,⟨op',onn,ob,oof,ocap,on,O⟩,⟨xp,xnn,xb,xof,xcap,xn,X⟩,al,lsp,lnn,lb,lo,lc,ll,es,fl,tm,vo,co,ap⟩:=s;change fl=entR es at hfl;change es.length=ll at hes;have hB:=fun(K':SV→List C→Prop) F' u=>s55 (sp:=lsp) (nn:=lnn) (b:=lb) (off:=lo) (cap:=lc) (K:=K') hfl hes u F';refine aF ⟨false,false⟩ (fun _=>[]) (fun _=>.nil) Tryz.func19 Tryz.ntmps19 rfl rfl ?_;intros;rename_i TX _ _ _ _ _ CM hC _ _ _ _ _ _ _ hI _ _ hN _ hP;obtain⟨tz,tls,tt,to0,apx⟩:=TX;cbv;repeat' first|exact O5|intro β;cbv|apply O4
 rcases t1:CM .lt 2147483647 (Int.ofNat zl) with _|_
 rotate_left
 ·repeat (any_goals (simp only[t1];try (cbv;repeat' first|exact O5|intro β;cbv|apply O4)))
  refine hP [(0,0),(1,0),(2,0),(3,0),(4,0),(5,0)] _ _ _ _ ?_ rfl ?_ (hQ false (fun h=>by cases h))
  ·rfl
  ·exact aP
 repeat (any_goals (simp only[t1];try (cbv;repeat' first|exact O5|intro β;cbv|apply O4)))
 refine inl @hI Tryz.func54 Tryz.ntmps54 rfl rfl ?_;cbv;repeat' first|exact O5|intro β;cbv|apply O4
 rcases t2:CM .lt 2147483647 (Int.ofNat (tz data)) with _|_
 rotate_left
 ·repeat (any_goals (simp only[t2];try (cbv;repeat' first|exact O5|intro β;cbv|apply O4)))
  refine hP [(0,0),(1,0),(2,0),(3,0),(4,0),(5,0)] _ _ _ _ ?_ rfl ?_ (hQ false (fun h=>by cases h))
  ·rfl
  ·exact aP
 repeat (any_goals (simp only[t2];try (cbv;repeat' first|exact O5|intro β;cbv|apply O4)))
 refine inl @hI Tryz.func74 Tryz.ntmps74 rfl rfl ?_;cbv;repeat' first|exact O5|intro β;cbv|apply O4
 rcases t3:CM .lt 2147483647 (Int.ofNat vn) with _|_
 rotate_left
 ·repeat (any_goals (simp only[t3];try (cbv;repeat' first|exact O5|intro β;cbv|apply O4)))
  refine hP [(0,0),(1,0),(2,0),(3,0),(4,0),(5,0)] _ _ _ _ ?_ rfl ?_ (hQ false (fun h=>by cases h))
  ·rfl
  ·exact aP
 repeat (any_goals (simp only[t3];try (cbv;repeat' first|exact O5|intro β;cbv|apply O4)))
 rcases t4:CM .lt 2147483647 (Int.ofNat en') with _|_
 rotate_left
 ·repeat (any_goals (simp only[t4];try (cbv;repeat' first|exact O5|intro β;cbv|apply O4)))
  refine hP [(0,0),(1,0),(2,0),(3,0),(4,0),(5,0)] _ _ _ _ ?_ rfl ?_ (hQ false (fun h=>by cases h))
  ·rfl
  ·exact aP
 repeat (any_goals (simp only[t4];try (cbv;repeat' first|exact O5|intro β;cbv|apply O4)))
 rcases t5:CM .lt 2147483647 (Int.ofNat on) with _|_
 rotate_left
 ·repeat (any_goals (simp only[t5];try (cbv;repeat' first|exact O5|intro β;cbv|apply O4)))
  refine hP [(0,0),(1,0),(2,0),(3,0),(4,0),(5,0)] _ _ _ _ ?_ rfl ?_ (hQ false (fun h=>by cases h))
  ·rfl
  ·exact aP
 repeat (any_goals (simp only[t5];try (cbv;repeat' first|exact O5|intro β;cbv|apply O4)))
 rcases t6:CM .lt 2147483647 (Int.ofNat xn) with _|_
 rotate_left
 ·repeat (any_goals (simp only[t6];try (cbv;repeat' first|exact O5|intro β;cbv|apply O4)))
  refine hP [(0,0),(1,0),(2,0),(3,0),(4,0),(5,0)] _ _ _ _ ?_ rfl ?_ (hQ false (fun h=>by cases h))
  ·rfl
  ·exact aP
 repeat (any_goals (simp only[t6];try (cbv;repeat' first|exact O5|intro β;cbv|apply O4)))
 have hfit:ll≤2147483647→iT.fit ⟨id,et,ht,⟨zp,zn,zb,zo,zl,zc,Z⟩,pv,cq,ls,nf,sd,ms,mc,mu',mi,data,ix,it,⟨vp,vnn,vb,vof,vcap,vn,V⟩,⟨lp,lnn',lb',lof,lcap,en',L⟩,⟨op',onn,ob,oof,ocap,on,O⟩,⟨xp,xnn,xb,xof,xcap,xn,X⟩,al,lsp,lnn,lb,lo,lc,ll,es,fl,tm,vo,co,ap⟩:=fun h=>by rw[hC] at t1 t3 t4 t5 t6;simp only[cmStd,decide_eq_false_iff_not,Int.ofNat_eq_natCast] at t1 t3 t4 t5 t6;exact⟨h,by show zl≤_;omega,by show vn≤_;omega,by show en'≤_;omega,by show on≤_;omega,by show xn≤_;omega⟩
 refine aD hN [5] (by decide) rfl ?_ ?_ (fun F1=>hB _ F1 (fun q hq=>?_))
 ·rfl
 ·exact⟨rfl,trivial⟩
 cbv;repeat' first|exact O5|intro β;cbv|apply O4
 cases q with
 |true=>
  cbv;repeat' first|exact O5|intro β;cbv|apply O4
  refine hP [(0,0),(1,0),(2,0),(3,0),(4,0),(5,0)] _ _ _ _ ?_ rfl ?_ (hQ true (fun h=>hfit (hq h)))
  ·rfl
  ·exact aP
 |false=>
  cbv;repeat' first|exact O5|intro β;cbv|apply O4
  refine hP [(0,0),(1,0),(2,0),(3,0),(4,0),(5,0)] _ _ _ _ ?_ rfl ?_ (hQ false (fun h=>by cases h))
  ·rfl
  ·exact aP
def rowG (ix:Int) (es:List EN) (k:Nat):Prop:=∀x,es[k]?=some x→x.i=ix+1+k∧x.k=0∧tfStd.sz x.s≤100
theorem s61 {sp:Bool} {nn b off cap n:Nat} {fl:List FV} {es:List EN} {ix tm most:Int} {K:SV→List C→Prop} (hfl:fl=entR es) (hes:es.length=n) (hix0:0≤ix) (hix1:ix≤1099511627776)
  (hQ:∀q:Bool,(q=true→n≤30∧tm≤most∧∀k,k<n→rowG ix es k)→K (.bl q) [.prd (.sl sp nn b off cap (.sl 81 4 n fl))]) (F:HProp):
  inS Tryz.prog F 61 [.i .u64 ix,.i .u64 tm,.sl 0 nn b off n cap,.i .u64 most] [.prd (.sl sp nn b off cap (.sl 81 4 n fl))] K:=by
 refine aF ⟨false,false⟩ (fun _=>[]) (fun _=>.nil) Tryz.func61 Tryz.ntmps61 rfl rfl ?_;intros;rename_i NF hNF _ _ mu hmu TX hTX _ _ AR hA CM hC _ _ _ _ _ _ _ _ hL _ _ hsat hP;have hnn0:0<n→∃k,nn=k+1:=by intro h0;obtain⟨w,F,hs⟩:=hsat;have:=dG (f:=.sl 81 4 n fl) rfl h0 (by show 0<4;omega) (bY (h:=0) rfl hs);exact⟨nn-1,by omega⟩
 obtain⟨tz,tls,tt,to0,apx⟩:=TX;have etz:∀s,tz s=tfStd.sz s:=fun s=>congrArg (fun t:TF=>t.sz s) hTX;cbv;repeat' first|exact O5|intro β;cbv|apply O4
 rcases t1:CM .lt 30 (Int.ofNat n) with _|_
 rotate_left
 ·repeat (any_goals (simp only[t1];try (cbv;repeat' first|exact O5|intro β;cbv|apply O4)))
  refine hP [(0,0)] _ _ _ _ ?_ rfl ?_ (hQ false (fun h=>by cases h))
  ·rfl
  ·exact aP
 repeat (any_goals (simp only[t1];try (cbv;repeat' first|exact O5|intro β;cbv|apply O4)))
 rcases t2:CM .lt most tm with _|_
 rotate_left
 ·repeat (any_goals (simp only[t2];try (cbv;repeat' first|exact O5|intro β;cbv|apply O4)))
  refine hP [(0,0)] _ _ _ _ ?_ rfl ?_ (hQ false (fun h=>by cases h))
  ·rfl
  ·exact aP
 repeat (any_goals (simp only[t2];try (cbv;repeat' first|exact O5|intro β;cbv|apply O4)))
 have g1:n≤30:=by rw[hC] at t1;simp only[cmStd,decide_eq_false_iff_not,Int.ofNat_eq_natCast] at t1;omega
 have g2:tm≤most:=by rw[hC] at t2;simp only[cmStd,decide_eq_false_iff_not] at t2;omega
 have a1:AR .add .u64 ix 1=ix+1:=by rw[hA];simp only[arStd,IntKind.wrap_u64];omega
 refine hL _ {x:Nat×Int//x.1≤n∧∀k,k<x.1→rowG ix es k} (fun x j=>eO 60 j [(0,.i .u64 ix),(1,.i .u64 x.1.2),(3,.i .u64 most),(8,.bl false),(19,.sl 0 nn b off n cap),(20,.i .i64 n),(21,.i .i64 x.1.1)])
  (fun _=>[.prd (.sl sp nn b off cap (.sl 81 4 n fl))]) (fun x=>n-x.1.1) ⟨(0,tm),by omega,by intros;omega⟩ [(0,0)] _ _ (by decide+kernel) ⟨by cbv,by cbv,by cbv,⟨rfl,trivial⟩⟩ ?_
 rintro⟨⟨i,t0⟩,hi,hgd⟩ j LP hsat2 hLP hX hR;change i≤n at hi;change∀k,k<i→rowG ix es k at hgd;rcases Nat.lt_or_ge i n with h|h
 ·obtain⟨k,rfl⟩:=hnn0 (by omega);have h1:CM .lt (Int.ofNat i) (Int.ofNat n)=true:=O6;have h3:CM .le 0 (Int.ofNat i)=true:=O6;have hadd:AR .add .i64 (Int.ofNat i) 1=Int.ofNat (i+1):=by rw[hA];exact fU (by omega)
  have hcv:AR .conv .u64 (Int.ofNat i) 0=Int.ofNat i:=by rw[hA];show IntKind.u64.wrap _=_;rw[IntKind.wrap_u64];simp only[Int.ofNat_eq_natCast];omega
  obtain⟨jx,hjx⟩:∃jx:Int,jx=ix+1+i:=⟨_,rfl⟩;have ha2:AR .add .u64 (ix+1) (Int.ofNat i)=jx:=by rw[hA,hjx];simp only[arStd,IntKind.wrap_u64,Int.ofNat_eq_natCast];omega
  obtain⟨jy,hjy⟩:∃jy:Int,jy=ix+1:=⟨_,rfl⟩;rw[←hjy] at ha2;have a1':AR .add .u64 ix 1=jy:=by rw[a1,hjy]
  obtain⟨e,he⟩:∃e,es[i]?=some e:=⟨es[i],by simp⟩;obtain⟨n0,n1,n2,n3⟩:=hJ es i e he;have hA0:NF fl (mu i 4)=.sc (.int .u64 e.t):=by rw[hNF,hmu,hfl];exact n0
  have hA1:NF fl (mu i 4+1)=.sc (.int .u64 e.i):=by rw[hNF,hmu,hfl];exact n1
  have hA2:NF fl (mu i 4+1+1)=.sc (.int .i64 e.k):=by rw[hNF,hmu,hfl];exact n2
  have hA3:NF fl (mu i 4+1+1+1)=.sc (.string e.s):=by rw[hNF,hmu,hfl];exact n3
  have hle:CM .le (Int.ofNat (mu i 4+4)) (Int.ofNat (mu n 4))=true:=by rw[hC,hmu];simp only[cmStd,decide_eq_true_eq,Int.ofNat_eq_natCast];omega
  obtain⟨et,ei,ek,est⟩:=e;cbv;repeat' first|exact O5|intro β;cbv|apply O4|apply h1;done|apply h3;done|apply hle;done|fail
  repeat (any_goals (simp only[h1,hA0,hA1,hA2,hA3,a1',hcv,ha2];try (cbv;repeat' first|exact O5|intro β;cbv|apply O4|apply h1;done|apply h3;done|apply hle;done|fail)))
  rcases q1:CM .ne ei jx with _|_
  rotate_left
  ·repeat (any_goals (simp only[q1];try (cbv;repeat' first|exact O5|intro β;cbv|apply O4|apply h1;done|apply h3;done|apply hle;done|fail)))
   apply hR;cbv;repeat' first|exact O5|intro β;cbv|apply O4|apply h1;done|apply h3;done|apply hle;done|fail
   refine hP [(0,0)] _ _ _ _ ?_ rfl ?_ (hQ false (fun h=>by cases h))
   ·rfl
   ·exact aP
  repeat (any_goals (simp only[q1];try (cbv;repeat' first|exact O5|intro β;cbv|apply O4|apply h1;done|apply h3;done|apply hle;done|fail)))
  rcases q2:CM .lt et t0 with _|_
  rotate_left
  ·repeat (any_goals (simp only[q2];try (cbv;repeat' first|exact O5|intro β;cbv|apply O4|apply h1;done|apply h3;done|apply hle;done|fail)))
   apply hR;cbv;repeat' first|exact O5|intro β;cbv|apply O4|apply h1;done|apply h3;done|apply hle;done|fail
   refine hP [(0,0)] _ _ _ _ ?_ rfl ?_ (hQ false (fun h=>by cases h))
   ·rfl
   ·exact aP
  repeat (any_goals (simp only[q2];try (cbv;repeat' first|exact O5|intro β;cbv|apply O4|apply h1;done|apply h3;done|apply hle;done|fail)))
  rcases q3:CM .lt most et with _|_
  rotate_left
  ·repeat (any_goals (simp only[q3];try (cbv;repeat' first|exact O5|intro β;cbv|apply O4|apply h1;done|apply h3;done|apply hle;done|fail)))
   apply hR;cbv;repeat' first|exact O5|intro β;cbv|apply O4|apply h1;done|apply h3;done|apply hle;done|fail
   refine hP [(0,0)] _ _ _ _ ?_ rfl ?_ (hQ false (fun h=>by cases h))
   ·rfl
   ·exact aP
  repeat (any_goals (simp only[q3];try (cbv;repeat' first|exact O5|intro β;cbv|apply O4|apply h1;done|apply h3;done|apply hle;done|fail)))
  rcases q4:CM .ne ek 0 with _|_
  rotate_left
  ·repeat (any_goals (simp only[q4];try (cbv;repeat' first|exact O5|intro β;cbv|apply O4|apply h1;done|apply h3;done|apply hle;done|fail)))
   apply hR;cbv;repeat' first|exact O5|intro β;cbv|apply O4|apply h1;done|apply h3;done|apply hle;done|fail
   refine hP [(0,0)] _ _ _ _ ?_ rfl ?_ (hQ false (fun h=>by cases h))
   ·rfl
   ·exact aP
  repeat (any_goals (simp only[q4];try (cbv;repeat' first|exact O5|intro β;cbv|apply O4|apply h1;done|apply h3;done|apply hle;done|fail)))
  rcases q5:CM .lt 100 (Int.ofNat (tz est)) with _|_
  rotate_left
  ·repeat (any_goals (simp only[q5];try (cbv;repeat' first|exact O5|intro β;cbv|apply O4|apply h1;done|apply h3;done|apply hle;done|fail)))
   apply hR;cbv;repeat' first|exact O5|intro β;cbv|apply O4|apply h1;done|apply h3;done|apply hle;done|fail
   refine hP [(0,0)] _ _ _ _ ?_ rfl ?_ (hQ false (fun h=>by cases h))
   ·rfl
   ·exact aP
  repeat (any_goals (simp only[q5];try (cbv;repeat' first|exact O5|intro β;cbv|apply O4|apply h1;done|apply h3;done|apply hle;done|fail)))
  repeat (any_goals (simp only[hadd];try (cbv;repeat' first|exact O5|intro β;cbv|apply O4|apply h1;done|apply h3;done|apply hle;done|fail)))
  have r1:ei=ix+1+i:=by rw[hC] at q1;rw[←hjx];simpa [cmStd] using q1
  have r4:ek=0:=by rw[hC] at q4;simpa [cmStd] using q4
  have r5:tfStd.sz est≤100:=by rw[hC] at q5;simp only[cmStd,decide_eq_false_iff_not,Int.ofNat_eq_natCast] at q5;rw[←etz];omega
  exact hLP ⟨(i+1,et),by show i+1≤n;omega,fun k hk=>by
   have hk:k<i+1:=hk;rcases Nat.lt_succ_iff_lt_or_eq.1 hk with h|rfl
   ·exact hgd k h
   ·intro x hx;rw[he] at hx;cases hx
    exact⟨r1,r4,r5⟩⟩ [(0,0)] _ (by show n-(i+1)<n-i;omega) ⟨rfl,rfl,rfl,⟨rfl,trivial⟩⟩
 ·have h1:CM .lt (Int.ofNat i) (Int.ofNat n)=false:=O6;cbv;repeat' first|exact O5|intro β;cbv|apply O4|apply h1;done|apply h3;done|apply hle;done|fail
  repeat (any_goals (simp only[h1];try (cbv;repeat' first|exact O5|intro β;cbv|apply O4|apply h1;done|apply h3;done|apply hle;done|fail)))
  apply hX;cbv;repeat' first|exact O5|intro β;cbv|apply O4|apply h1;done|apply h3;done|apply hle;done|fail
  refine hP [(0,0)] _ _ _ _ ?_ rfl ?_ (hQ true (fun _=>⟨g1,g2,fun k hk=>hgd k (by omega)⟩))
  ·rfl
  ·exact aP
structure memOK (V L O X:UL) (al:Bool):Prop where
 v0:V.n≠0
 v9:V.n≤9
 l4:L.n≤4
 o0:O.n=0
 x0:X.n=0
 al0:al=false
 kn:∀k∈V.l++L.l,0<k∧k<1099511627776
 nd:(V.l++L.l).Nodup
theorem s60 {V L O X:UL} {al:Bool} {K:SV→List C→Prop} (hb:V.n≤4294967000∧L.n≤4294967000∧O.n≤4294967000∧X.n≤4294967000) (hQ:∀q:Bool,(q=true→memOK V L O X al)→K (.bl q) [V.cel,L.cel,O.cel,X.cel]) (F:HProp):
  inS Tryz.prog F 60 [.agg [V.sv 0,L.sv 1,O.sv 2,X.sv 3,.bl al]] [V.cel,L.cel,O.cel,X.cel] K:=by
 obtain⟨vp,vnn,vb,vof,vcap,vn,V⟩:=V;obtain⟨lp,lnn',lb',lof,lcap,en',L⟩:=L;obtain⟨op',onn,ob,oof,ocap,on,O⟩:=O;obtain⟨xp,xnn,xb,xof,xcap,xn,X⟩:=X;obtain⟨hb1,hb2,hb3,hb4⟩:=hb;change vn≤4294967000 at hb1;change en'≤4294967000 at hb2;change on≤4294967000 at hb3;change xn≤4294967000 at hb4;have hB:=fun(sp:Bool) (nn b off cap n:Nat) (l:List Int) (K':SV→List C→Prop) F' (hn:n≤100000) u=>s44 (sp:=sp) (nn:=nn) (b:=b) (off:=off) (cap:=cap) (n:=n) (l:=l) (K:=K') hn u F';refine aF ⟨false,false⟩ (fun _=>[]) (fun _=>.nil) Tryz.func60 Tryz.ntmps60 rfl rfl ?_;intros;rename_i ji hji _ _ _ _ NI hNI _ _ _ _ _ _ _ _ na hna AR hA CM hC _ _ _ _ _ _ _ hI hL _ hN hsat hP;have lV:=(pS 0 hsat rfl).1;have lL:=(pS 1 hsat rfl).1;change V.length=vn at lV;change L.length=en' at lL;have a1:AR .add .i64 (Int.ofNat on) (Int.ofNat xn)=Int.ofNat (on+xn):=by rw[hA];simp only[arStd,IntKind.wrap_i64,Int.ofNat_eq_natCast];omega
 obtain⟨ox,hox⟩:∃ox:Nat,ox=on+xn:=⟨_,rfl⟩;rw[←hox] at a1;cbv;repeat' first|exact O5|intro β;cbv|apply O4
 rcases t1:CM .eq (Int.ofNat vn) 0 with _|_
 rotate_left
 ·repeat (any_goals (simp only[t1,a1];try (cbv;repeat' first|exact O5|intro β;cbv|apply O4)))
  refine hP [(0,0),(1,0),(2,0),(3,0)] _ _ _ _ ?_ rfl ?_ (hQ false (fun h=>by cases h))
  ·rfl
  ·exact aP
 repeat (any_goals (simp only[t1,a1];try (cbv;repeat' first|exact O5|intro β;cbv|apply O4)))
 rcases t2:CM .lt 9 (Int.ofNat vn) with _|_
 rotate_left
 ·repeat (any_goals (simp only[t2,a1];try (cbv;repeat' first|exact O5|intro β;cbv|apply O4)))
  refine hP [(0,0),(1,0),(2,0),(3,0)] _ _ _ _ ?_ rfl ?_ (hQ false (fun h=>by cases h))
  ·rfl
  ·exact aP
 repeat (any_goals (simp only[t2,a1];try (cbv;repeat' first|exact O5|intro β;cbv|apply O4)))
 rcases t3:CM .lt 4 (Int.ofNat en') with _|_
 rotate_left
 ·repeat (any_goals (simp only[t3,a1];try (cbv;repeat' first|exact O5|intro β;cbv|apply O4)))
  refine hP [(0,0),(1,0),(2,0),(3,0)] _ _ _ _ ?_ rfl ?_ (hQ false (fun h=>by cases h))
  ·rfl
  ·exact aP
 repeat (any_goals (simp only[t3,a1];try (cbv;repeat' first|exact O5|intro β;cbv|apply O4)))
 rcases t4:CM .lt 0 (Int.ofNat ox) with _|_
 rotate_left
 ·repeat (any_goals (simp only[t4,a1];try (cbv;repeat' first|exact O5|intro β;cbv|apply O4)))
  refine hP [(0,0),(1,0),(2,0),(3,0)] _ _ _ _ ?_ rfl ?_ (hQ false (fun h=>by cases h))
  ·rfl
  ·exact aP
 repeat (any_goals (simp only[t4,a1];try (cbv;repeat' first|exact O5|intro β;cbv|apply O4)))
 cases al with
 |true=>
  cbv;repeat' first|exact O5|intro β;cbv|apply O4
  refine hP [(0,0),(1,0),(2,0),(3,0)] _ _ _ _ ?_ rfl ?_ (hQ false (fun h=>by cases h))
  ·rfl
  ·exact aP
 |false=>
 have r1:vn≠0:=by rw[hC] at t1;simpa [cmStd] using t1
 have r2:vn≤9:=by rw[hC] at t2;simp only[cmStd,decide_eq_false_iff_not,Int.ofNat_eq_natCast] at t2;omega
 have r3:en'≤4:=by rw[hC] at t3;simp only[cmStd,decide_eq_false_iff_not,Int.ofNat_eq_natCast] at t3;omega
 have r4:on=0∧xn=0:=by rw[hC] at t4;simp only[cmStd,decide_eq_false_iff_not,Int.ofNat_eq_natCast] at t4;omega
 have y1:CM .le (Int.ofNat (na 0 vn)) 4294967296=true:=by rw[hC,hna];simp only[cmStd,decide_eq_true_eq,Int.ofNat_eq_natCast];omega
 have y2:CM .le (Int.ofNat (na (na 0 vn) en')) 4294967296=true:=by rw[hC,hna];simp only[cmStd,decide_eq_true_eq,Int.ofNat_eq_natCast];omega
 cbv;repeat' first|exact O5|intro β;cbv|apply O4|apply y1;done|apply y2;done
 have e1:na (na 0 vn) en'=vn+en':=by rw[hna];show 0+vn+en'=vn+en';omega
 have e2:ji (ji [] V) L=V++L:=by rw[hji];rfl
 obtain⟨n,hn⟩:∃n,n=vn+en':=⟨_,rfl⟩;obtain⟨W,hW⟩:∃W,W=V++L:=⟨_,rfl⟩;rw[←hn] at e1;rw[←hW] at e2;have lW:W.length=n:=by rw[hW,hn,List.length_append];omega
 repeat (any_goals (simp only[e1,e2];try (cbv;repeat' first|exact O5|intro β;cbv|apply O4|apply y1;done|apply y2;done)))
 generalize β 6 0=wn,β 6 1=wb,β 6 2=wo,β 6 3=wc;refine hL _ {i:Nat//i≤n∧∀k,k<i→∃y,W[k]?=some y∧0<y∧y<1099511627776} (fun i j=>eO 55 j [(2,.bl false),(3,.sl 4 wn wb wo n wc),(43,.sl 4 wn wb wo n wc),(44,.i .i64 n),(45,.i .i64 i.1)])
  (fun _=>[.prd (.sl vp vnn vb vof vcap (.ul 22 .u64 vn V)),.prd (.sl lp lnn' lb' lof lcap (.ul 22 .u64 en' L)),.prd (.sl op' onn ob oof ocap (.ul 22 .u64 on O)),.prd (.sl xp xnn xb xof xcap (.ul 22 .u64 xn X)),.prd (.sl true wn wb wo wc (.ul 22 .u64 n W))]) (fun i=>n-i.1) ⟨0,by omega,by intros;omega⟩ [(0,0),(1,0),(2,0),(3,0),(14,0)] _ _ (by decide+kernel) ⟨by cbv,by cbv,by cbv,⟨rfl,rfl,rfl,rfl,rfl,trivial⟩⟩ ?_
 rintro⟨i,hi,hgd⟩ j LP hsat2 hLP hX hR;change i≤n at hi;change∀k,k<i→∃y,W[k]?=some y∧0<y∧y<1099511627776 at hgd;rcases Nat.lt_or_ge i n with h|h
 ·obtain⟨k,rfl⟩:∃k,wn=k+1:=by
   obtain⟨w,F,hs⟩:=hsat2;have:wn≠0:=dG (f:=.ul 22 .u64 n W) rfl (by show 0<n;omega) (by show 0<1;omega) (bY (h:=4) rfl hs);exact⟨wn-1,by omega⟩
  have h1:CM .lt (Int.ofNat i) (Int.ofNat n)=true:=O6;have h3:CM .le 0 (Int.ofNat i)=true:=O6;have hadd:AR .add .i64 (Int.ofNat i) 1=Int.ofNat (i+1):=by rw[hA];exact fU (by omega)
  obtain⟨v,hv⟩:∃v,W[i]?=some v:=⟨W[i]'(by omega),by simp⟩;have hni:NI W i=v:=by have:=cO (l:=W) (j:=i) (by omega);rw[hNI];rw[hv] at this;cases this;rfl
  cbv;repeat' first|exact O5|intro β;cbv|apply O4|apply h1;done|apply h3;done|fail
  repeat (any_goals (simp only[h1,hni];try (cbv;repeat' first|exact O5|intro β;cbv|apply O4|apply h1;done|apply h3;done|fail)))
  repeat (first|(refine inl @hI Tryz.func59 Tryz.ntmps59 rfl rfl ?_;cbv;repeat' first|exact O5|intro β;cbv|apply O4|apply h1;done|apply h3;done|fail))
  rcases u1:CM .lt 0 v with _|_
  ·repeat (any_goals (simp only[u1];try (cbv;repeat' first|exact O5|intro β;cbv|apply O4|apply h1;done|apply h3;done|fail)))
   apply hR;cbv;repeat' first|exact O5|intro β;cbv|apply O4|apply h1;done|apply h3;done|fail
   refine hP [(0,0),(1,0),(2,0),(3,0)] _ _ _ _ ?_ rfl ?_ (hQ false (fun h=>by cases h))
   ·rfl
   ·exact aP
  repeat (any_goals (simp only[u1];try (cbv;repeat' first|exact O5|intro β;cbv|apply O4|apply h1;done|apply h3;done|fail)))
  rcases u2:CM .lt v 1099511627776 with _|_
  ·repeat (any_goals (simp only[u1,u2];try (cbv;repeat' first|exact O5|intro β;cbv|apply O4|apply h1;done|apply h3;done|fail)))
   apply hR;cbv;repeat' first|exact O5|intro β;cbv|apply O4|apply h1;done|apply h3;done|fail
   refine hP [(0,0),(1,0),(2,0),(3,0)] _ _ _ _ ?_ rfl ?_ (hQ false (fun h=>by cases h))
   ·rfl
   ·exact aP
  repeat (any_goals (simp only[u1,u2];try (cbv;repeat' first|exact O5|intro β;cbv|apply O4|apply h1;done|apply h3;done|fail)))
  repeat (any_goals (simp only[hadd];try (cbv;repeat' first|exact O5|intro β;cbv|apply O4|apply h1;done|apply h3;done|fail)))
  have w1:0<v:=by rw[hC] at u1;simpa [cmStd] using u1
  have w2:v<1099511627776:=by rw[hC] at u2;simpa [cmStd] using u2
  exact hLP ⟨i+1,by show i+1≤n;omega,fun k hk=>by
   have hk:k<i+1:=hk;rcases Nat.lt_succ_iff_lt_or_eq.1 hk with h|rfl
   ·exact hgd k h
   ·exact⟨v,hv,w1,w2⟩⟩ [(0,0),(1,0),(2,0),(3,0),(4,0)] _ (by show n-(i+1)<n-i;omega) ⟨rfl,rfl,rfl,⟨rfl,rfl,rfl,rfl,rfl,trivial⟩⟩
 ·have h1:CM .lt (Int.ofNat i) (Int.ofNat n)=false:=O6;cbv;repeat' first|exact O5|intro β;cbv|apply O4|apply h1;done|apply h3;done|fail
  repeat (any_goals (simp only[h1];try (cbv;repeat' first|exact O5|intro β;cbv|apply O4|apply h1;done|apply h3;done|fail)))
  apply hX;cbv;repeat' first|exact O5|intro β;cbv|apply O4|apply h1;done|apply h3;done|fail
  refine aD hN [4] (by decide) rfl ?_ ?_ (fun F1=>hB true wn wb wo wc n W _ F1 (by omega) (fun q hq=>?_))
  ·rfl
  ·exact⟨rfl,trivial⟩
  cbv;repeat' first|exact O5|intro β;cbv|apply O4|apply h1;done|apply h3;done|fail
  have kn:∀k∈V++L,0<k∧k<1099511627776:=by intro y hy;rw[←hW] at hy;obtain⟨k,hk,rfl⟩:=List.mem_iff_getElem.1 hy;obtain⟨y2,e1,e2,e3⟩:=hgd k (by omega);rw[List.getElem?_eq_getElem hk] at e1;cases e1;exact⟨e2,e3⟩
  refine hP [(0,0),(1,0),(2,0),(3,0)] _ _ _ _ ?_ rfl ?_ (hQ q (fun hq1=>⟨r1,r2,r3,r4.1,r4.2,rfl,kn,by rw[←hW];exact hq hq1⟩))
  ·rfl
  ·exact aP
structure lD (s:iT):Prop where
 id0:0<s.id
 id1:s.id<1099511627776
 ht0:1≤s.ht
 et0:s.ht<s.et
 et1:s.et≤30
 z0:s.z.l≤10
 ls0:s.ls=true→s.cq=true
 mi0:1≤s.mi
 mi1:s.mi≤100
 ms0:1048576≤s.ms
 mc0:1048576≤s.mc
 mu0:s.mu=0
 mem:memOK s.V s.L s.O s.X s.al
 d0:tfStd.sz s.data≤100
 ix0:1≤s.ix
 ix1:s.ix≤1099511627776
 it0:1≤s.it
 tm1:s.tm≤1099511627776
 vo1:s.vo<1099511627776
 row:s.ln≤30∧s.it≤s.tm∧∀k,k<s.ln→rowG s.ix s.es k
 co0:s.ix≤s.co
 co1:s.co≤s.ix+s.ln
 ap0:s.ap=0∨s.ix≤s.ap∧s.ap≤s.co
structure iT.wf2 (s:iT):Prop where
 fl0:s.fl=entR s.es
 es0:s.es.length=s.ln
 ln0:s.ln≤2147483647
 z0:s.z.l≤2147483647
 V0:s.V.n≤2147483647
 L0:s.L.n≤2147483647
 O0:s.O.n≤2147483647
 X0:s.X.n≤2147483647
def OL (a b c d e:Value) (k:Nat):Value:=match k with
 |0=>a|1=>b|2=>c|3=>d|_=>e
theorem nD {ix it:Int} {es:List EN} {n:Nat} (hn:es.length=n) (h:∀k,k<n→rowG ix es k):(dU ix it es).1=ix+n:=by
 unfold dU;rw[List.getLast?_eq_getElem?];rcases n with _|n
 ·have:es=[]:=List.length_eq_zero_iff.1 hn;subst this;show ix=ix+((0:Nat):Int);omega
 ·have hlt:n<es.length:=by omega
  have e1:es.length-1=n:=by omega
  rw[e1,List.getElem?_eq_getElem hlt];have:=(h n (by omega) _ (List.getElem?_eq_getElem hlt)).1;show (es[n]).i=_;rw[this];omega
theorem sN {f:Nat→Value} (h:((List.range 26).all fun k=>(f k).oneCell')=true) (k:Nat) (hk:k<26):(f k).oneCell'=true:=by rw[List.all_eq_true] at h;exact h k (List.mem_range.2 hk)
theorem s23 {s:iT} {K:SV→List C→Prop} (hs:s.wf2) (hQ:∀q:Bool,(q=true→lD s)→K (.bl q) s.cells) (F:HProp):inS Tryz.prog F 23 [.agg (s.cs 0 1 2 3 4 5)] s.cells K:=by
 obtain⟨id,et,ht,⟨zp,zn,zb,zo,zl,zc,Z⟩,pv,cq,ls,nf,sd,ms,mc,mu',mi,data,ix,it,⟨vp,vnn,vb,vof,vcap,vn,V⟩,⟨lp,lnn',lb',lof,lcap,en',L⟩,⟨op',onn,ob,oof,ocap,on,O⟩,⟨xp,xnn,xb,xof,xcap,xn,X⟩,al,lsp,lnn,lb,lo,lc,ll,es,fl,tm,vo,co,ap⟩:=s;obtain⟨hfl,hes,hln,hzl,hV0,hL0,hO0,hX0⟩:=hs;change fl=entR es at hfl;change es.length=ll at hes;change ll≤2147483647 at hln;change zl≤2147483647 at hzl;change vn≤2147483647 at hV0;change en'≤2147483647 at hL0;change on≤2147483647 at hO0;change xn≤2147483647 at hX0;have hB60:=fun(K':SV→List C→Prop) F' u=>s60 (V:=⟨vp,vnn,vb,vof,vcap,vn,V⟩) (L:=⟨lp,lnn',lb',lof,lcap,en',L⟩) (O:=⟨op',onn,ob,oof,ocap,on,O⟩) (X:=⟨xp,xnn,xb,xof,xcap,xn,X⟩) (al:=al) (K:=K') ⟨by show vn≤_;omega,by show en'≤_;omega,by show on≤_;omega,by show xn≤_;omega⟩ u F';have hB61:=fun(K':SV→List C→Prop) F' h1 h2 u=>s61 (sp:=lsp) (nn:=lnn) (b:=lb) (off:=lo) (cap:=lc) (ix:=ix) (tm:=it) (most:=tm) (K:=K') hfl hes h1 h2 u F';have hB49:=fun(x:NDV) (hx:x.n=ll) hW (K':SV→List C→Prop) F' u=>s49 (x:=x) (sp:=true) (fl:=fl) (es:=es) (K:=K') hW hfl (by rw[hx];exact hes) (by rw[hx];omega) u F';refine aF ⟨false,false⟩ (fun _=>[r26]) (fun _=>(.cons x26 .nil)) Tryz.func23 Tryz.ntmps23 rfl rfl ?_;intros;rename_i NI _ _ _ _ _ _ _ TX hTX _ _ AR hA CM hC _ _ _ _ _ _ hU hI hL _ hN hsat hP;have hnn0:0<zl→∃k,zn=k+1:=by intro h0;obtain⟨w,F,hs⟩:=hsat;have:zn≠0:=dG (f:=.ul 3 .i64 zl Z) rfl h0 (by show 0<1;omega) (bY (h:=0) rfl hs);exact⟨zn-1,by omega⟩
 obtain⟨tz,tls,tt,to0,apx⟩:=TX;have etz:∀s,tz s=tfStd.sz s:=fun s=>congrArg (fun t:TF=>t.sz s) hTX;cbv;repeat' first|exact O5|intro β;cbv|apply O4
 repeat (first|(refine inl @hI Tryz.func59 Tryz.ntmps59 rfl rfl ?_;cbv;repeat' first|exact O5|intro β;cbv|apply O4))
 rcases p1:CM .lt 0 id with _|_
 ·repeat (any_goals (simp only[p1];try (cbv;repeat' first|exact O5|intro β;cbv|apply O4)))
  refine hP [(0,0),(1,0),(2,0),(3,0),(4,0),(5,0)] _ _ _ _ ?_ rfl ?_ (hQ false (fun h=>by cases h))
  ·rfl
  ·exact aP
 repeat (any_goals (simp only[p1];try (cbv;repeat' first|exact O5|intro β;cbv|apply O4)))
 rcases p2:CM .lt id 1099511627776 with _|_
 ·repeat (any_goals (simp only[p1,p2];try (cbv;repeat' first|exact O5|intro β;cbv|apply O4)))
  refine hP [(0,0),(1,0),(2,0),(3,0),(4,0),(5,0)] _ _ _ _ ?_ rfl ?_ (hQ false (fun h=>by cases h))
  ·rfl
  ·exact aP
 repeat (any_goals (simp only[p1,p2];try (cbv;repeat' first|exact O5|intro β;cbv|apply O4)))
 rcases p3:CM .lt ht 1 with _|_
 rotate_left
 ·repeat (any_goals (simp only[p1,p2,p3];try (cbv;repeat' first|exact O5|intro β;cbv|apply O4)))
  refine hP [(0,0),(1,0),(2,0),(3,0),(4,0),(5,0)] _ _ _ _ ?_ rfl ?_ (hQ false (fun h=>by cases h))
  ·rfl
  ·exact aP
 repeat (any_goals (simp only[p1,p2,p3];try (cbv;repeat' first|exact O5|intro β;cbv|apply O4)))
 rcases p4:CM .le et ht with _|_
 rotate_left
 ·repeat (any_goals (simp only[p1,p2,p3,p4];try (cbv;repeat' first|exact O5|intro β;cbv|apply O4)))
  refine hP [(0,0),(1,0),(2,0),(3,0),(4,0),(5,0)] _ _ _ _ ?_ rfl ?_ (hQ false (fun h=>by cases h))
  ·rfl
  ·exact aP
 repeat (any_goals (simp only[p1,p2,p3,p4];try (cbv;repeat' first|exact O5|intro β;cbv|apply O4)))
 rcases p5:CM .lt 30 et with _|_
 rotate_left
 ·repeat (any_goals (simp only[p1,p2,p3,p4,p5];try (cbv;repeat' first|exact O5|intro β;cbv|apply O4)))
  refine hP [(0,0),(1,0),(2,0),(3,0),(4,0),(5,0)] _ _ _ _ ?_ rfl ?_ (hQ false (fun h=>by cases h))
  ·rfl
  ·exact aP
 repeat (any_goals (simp only[p1,p2,p3,p4,p5];try (cbv;repeat' first|exact O5|intro β;cbv|apply O4)))
 rcases p6:CM .lt 10 (Int.ofNat zl) with _|_
 rotate_left
 ·repeat (any_goals (simp only[p1,p2,p3,p4,p5,p6];try (cbv;repeat' first|exact O5|intro β;cbv|apply O4)))
  refine hP [(0,0),(1,0),(2,0),(3,0),(4,0),(5,0)] _ _ _ _ ?_ rfl ?_ (hQ false (fun h=>by cases h))
  ·rfl
  ·exact aP
 repeat (any_goals (simp only[p1,p2,p3,p4,p5,p6];try (cbv;repeat' first|exact O5|intro β;cbv|apply O4)))
 cases ls with
 |false=>
  cbv;repeat' first|exact O5|intro β;cbv|apply O4
  rename_i bx bx2;refine hL _ {i:Nat//i≤zl} (fun i j=>eO 180 j [(1,.ptr 6 (bx 0) 0),(2,.bl false),(44,.sl 0 zn zb zo zl zc),(45,.i .i64 zl),(46,.i .i64 i.1)])
   (fun _=>[.prd (.sl zp zn zb zo zc (.ul 3 .i64 zl Z)),.prd (.sl vp vnn vb vof vcap (.ul 22 .u64 vn V)),.prd (.sl lp lnn' lb' lof lcap (.ul 22 .u64 en' L)),.prd (.sl op' onn ob oof ocap (.ul 22 .u64 on O)),.prd (.sl xp xnn xb xof xcap (.ul 22 .u64 xn X)),.prd (.sl lsp lnn lb lo lc (.sl 81 4 ll fl)),
    .raw true (bx 0) 33 (iT.cs ⟨id,et,ht,⟨zp,zn,zb,zo,zl,zc,Z⟩,pv,cq,false,nf,sd,ms,mc,mu',mi,data,ix,it,⟨vp,vnn,vb,vof,vcap,vn,V⟩,⟨lp,lnn',lb',lof,lcap,en',L⟩,⟨op',onn,ob,oof,ocap,on,O⟩,⟨xp,xnn,xb,xof,xcap,xn,X⟩,al,lsp,lnn,lb,lo,lc,ll,es,fl,tm,vo,co,ap⟩ 0 1 2 3 4 5)]) (fun i=>zl-i.1) ⟨0,by omega⟩ [(0,0),(1,0),(2,0),(3,0),(4,0),(5,0),(6,0)] _ _ (by decide+kernel) ?_ ?_
  ·exact⟨by cbv,by cbv,by cbv,⟨rfl,rfl,rfl,rfl,rfl,rfl,⟨rfl,rfl,rfl,rfl⟩,trivial⟩⟩
  rintro⟨i,hi⟩ j LP hsat2 hLP hX hR;change i≤zl at hi;rcases Nat.lt_or_ge i zl with h|h
  ·obtain⟨k,rfl⟩:=hnn0 (by omega);have h1:CM .lt (Int.ofNat i) (Int.ofNat zl)=true:=O6;have h3:CM .le 0 (Int.ofNat i)=true:=O6;have hadd:AR .add .i64 (Int.ofNat i) 1=Int.ofNat (i+1):=by rw[hA];exact fU (by omega)
   cbv;repeat' first|exact O5|intro β;cbv|apply O4
   repeat (any_goals (simp only[h1];try (cbv;repeat' first|exact O5|intro β;cbv|apply O4)))
   rcases u1:CM .lt (NI Z i) 0 with _|_
   rotate_left
   ·repeat (any_goals (simp only[u1];try (cbv;repeat' first|exact O5|intro β;cbv|apply O4)))
    apply hR;cbv;repeat' first|exact O5|intro β;cbv|apply O4
    refine hP [(0,0),(1,0),(2,0),(3,0),(4,0),(5,0)] _ _ _ _ ?_ rfl ?_ (hQ false (fun h=>by cases h))
    ·rfl
    ·exact aP
   repeat (any_goals (simp only[u1];try (cbv;repeat' first|exact O5|intro β;cbv|apply O4)))
   rcases u2:CM .le et (NI Z i) with _|_
   rotate_left
   ·repeat (any_goals (simp only[u1,u2];try (cbv;repeat' first|exact O5|intro β;cbv|apply O4)))
    apply hR;cbv;repeat' first|exact O5|intro β;cbv|apply O4
    refine hP [(0,0),(1,0),(2,0),(3,0),(4,0),(5,0)] _ _ _ _ ?_ rfl ?_ (hQ false (fun h=>by cases h))
    ·rfl
    ·exact aP
   repeat (any_goals (simp only[u1,u2];try (cbv;repeat' first|exact O5|intro β;cbv|apply O4)))
   repeat (any_goals (simp only[hadd];try (cbv;repeat' first|exact O5|intro β;cbv|apply O4)))
   exact hLP ⟨i+1,by show i+1≤zl;omega⟩ [(0,0),(1,0),(2,0),(3,0),(4,0),(5,0),(6,0)] _ (by show zl-(i+1)<zl-i;omega) ⟨rfl,rfl,rfl,⟨rfl,rfl,rfl,rfl,rfl,rfl,⟨rfl,rfl,rfl,rfl⟩,trivial⟩⟩
  have h1:CM .lt (Int.ofNat i) (Int.ofNat zl)=false:=O6;cbv;repeat' first|exact O5|intro β;cbv|apply O4
  repeat (any_goals (simp only[h1];try (cbv;repeat' first|exact O5|intro β;cbv|apply O4)))
  apply hX;cbv;repeat' first|exact O5|intro β;cbv|apply O4
  rcases v1:CM .lt mi 1 with _|_
  rotate_left
  ·repeat (any_goals (simp only[v1];try (cbv;repeat' first|exact O5|intro β;cbv|apply O4)))
   refine hP [(0,0),(1,0),(2,0),(3,0),(4,0),(5,0)] _ _ _ _ ?_ rfl ?_ (hQ false (fun h=>by cases h))
   ·rfl
   ·exact aP
  repeat (any_goals (simp only[v1];try (cbv;repeat' first|exact O5|intro β;cbv|apply O4)))
  rcases v2:CM .lt 100 mi with _|_
  rotate_left
  ·repeat (any_goals (simp only[v1,v2];try (cbv;repeat' first|exact O5|intro β;cbv|apply O4)))
   refine hP [(0,0),(1,0),(2,0),(3,0),(4,0),(5,0)] _ _ _ _ ?_ rfl ?_ (hQ false (fun h=>by cases h))
   ·rfl
   ·exact aP
  repeat (any_goals (simp only[v1,v2];try (cbv;repeat' first|exact O5|intro β;cbv|apply O4)))
  rcases v3:CM .lt ms 1048576 with _|_
  rotate_left
  ·repeat (any_goals (simp only[v1,v2,v3];try (cbv;repeat' first|exact O5|intro β;cbv|apply O4)))
   refine hP [(0,0),(1,0),(2,0),(3,0),(4,0),(5,0)] _ _ _ _ ?_ rfl ?_ (hQ false (fun h=>by cases h))
   ·rfl
   ·exact aP
  repeat (any_goals (simp only[v1,v2,v3];try (cbv;repeat' first|exact O5|intro β;cbv|apply O4)))
  rcases v4:CM .lt mc 1048576 with _|_
  rotate_left
  ·repeat (any_goals (simp only[v1,v2,v3,v4];try (cbv;repeat' first|exact O5|intro β;cbv|apply O4)))
   refine hP [(0,0),(1,0),(2,0),(3,0),(4,0),(5,0)] _ _ _ _ ?_ rfl ?_ (hQ false (fun h=>by cases h))
   ·rfl
   ·exact aP
  repeat (any_goals (simp only[v1,v2,v3,v4];try (cbv;repeat' first|exact O5|intro β;cbv|apply O4)))
  rcases v5:CM .ne mu' 0 with _|_
  rotate_left
  ·repeat (any_goals (simp only[v1,v2,v3,v4,v5];try (cbv;repeat' first|exact O5|intro β;cbv|apply O4)))
   refine hP [(0,0),(1,0),(2,0),(3,0),(4,0),(5,0)] _ _ _ _ ?_ rfl ?_ (hQ false (fun h=>by cases h))
   ·rfl
   ·exact aP
  repeat (any_goals (simp only[v1,v2,v3,v4,v5];try (cbv;repeat' first|exact O5|intro β;cbv|apply O4)))
  refine aD hN [1,2,3,4] (by decide) rfl ?_ ?_ (fun F1=>hB60 _ F1 (fun q1 hq1=>?_))
  ·rfl
  ·exact⟨rfl,rfl,rfl,rfl,trivial⟩
  cases q1 with
  |false=>
   cbv;repeat' first|exact O5|intro β;cbv|apply O4
   repeat (any_goals (simp only[v1];try (cbv;repeat' first|exact O5|intro β;cbv|apply O4)))
   refine hP [(0,0),(1,0),(2,0),(3,0),(4,0),(5,0)] _ _ _ _ ?_ rfl ?_ (hQ false (fun h=>by cases h))
   ·rfl
   ·exact aP
  |true=>
  cbv;repeat' first|exact O5|intro β;cbv|apply O4
  rcases v6:CM .lt 100 (Int.ofNat (tz data)) with _|_
  rotate_left
  ·repeat (any_goals (simp only[v6];try (cbv;repeat' first|exact O5|intro β;cbv|apply O4)))
   refine hP [(0,0),(1,0),(2,0),(3,0),(4,0),(5,0)] _ _ _ _ ?_ rfl ?_ (hQ false (fun h=>by cases h))
   ·rfl
   ·exact aP
  repeat (any_goals (simp only[v6];try (cbv;repeat' first|exact O5|intro β;cbv|apply O4)))
  rcases v7:CM .lt ix 1 with _|_
  rotate_left
  ·repeat (any_goals (simp only[v6,v7];try (cbv;repeat' first|exact O5|intro β;cbv|apply O4)))
   refine hP [(0,0),(1,0),(2,0),(3,0),(4,0),(5,0)] _ _ _ _ ?_ rfl ?_ (hQ false (fun h=>by cases h))
   ·rfl
   ·exact aP
  repeat (any_goals (simp only[v6,v7];try (cbv;repeat' first|exact O5|intro β;cbv|apply O4)))
  rcases v8:CM .lt 1099511627776 ix with _|_
  rotate_left
  ·repeat (any_goals (simp only[v6,v7,v8];try (cbv;repeat' first|exact O5|intro β;cbv|apply O4)))
   refine hP [(0,0),(1,0),(2,0),(3,0),(4,0),(5,0)] _ _ _ _ ?_ rfl ?_ (hQ false (fun h=>by cases h))
   ·rfl
   ·exact aP
  repeat (any_goals (simp only[v6,v7,v8];try (cbv;repeat' first|exact O5|intro β;cbv|apply O4)))
  rcases v9:CM .lt it 1 with _|_
  rotate_left
  ·repeat (any_goals (simp only[v6,v7,v8,v9];try (cbv;repeat' first|exact O5|intro β;cbv|apply O4)))
   refine hP [(0,0),(1,0),(2,0),(3,0),(4,0),(5,0)] _ _ _ _ ?_ rfl ?_ (hQ false (fun h=>by cases h))
   ·rfl
   ·exact aP
  repeat (any_goals (simp only[v6,v7,v8,v9];try (cbv;repeat' first|exact O5|intro β;cbv|apply O4)))
  rcases va:CM .lt 1099511627776 tm with _|_
  rotate_left
  ·repeat (any_goals (simp only[v6,v7,v8,v9,va];try (cbv;repeat' first|exact O5|intro β;cbv|apply O4)))
   refine hP [(0,0),(1,0),(2,0),(3,0),(4,0),(5,0)] _ _ _ _ ?_ rfl ?_ (hQ false (fun h=>by cases h))
   ·rfl
   ·exact aP
  repeat (any_goals (simp only[v6,v7,v8,v9,va];try (cbv;repeat' first|exact O5|intro β;cbv|apply O4)))
  rcases vb0:CM .le 1099511627776 vo with _|_
  rotate_left
  ·repeat (any_goals (simp only[v6,v7,v8,v9,va,vb0];try (cbv;repeat' first|exact O5|intro β;cbv|apply O4)))
   refine hP [(0,0),(1,0),(2,0),(3,0),(4,0),(5,0)] _ _ _ _ ?_ rfl ?_ (hQ false (fun h=>by cases h))
   ·rfl
   ·exact aP
  repeat (any_goals (simp only[v6,v7,v8,v9,va,vb0];try (cbv;repeat' first|exact O5|intro β;cbv|apply O4)))
  have k7:1≤ix:=by rw[hC] at v7;simp only[cmStd,decide_eq_false_iff_not] at v7;omega
  have k8:ix≤1099511627776:=by rw[hC] at v8;simp only[cmStd,decide_eq_false_iff_not] at v8;omega
  refine aD hN [5] (by decide) rfl ?_ ?_ (fun F1=>hB61 _ F1 (by omega) k8 (fun q2 hq2=>?_))
  ·rfl
  ·exact⟨rfl,trivial⟩
  cases q2 with
  |false=>
   cbv;repeat' first|exact O5|intro β;cbv|apply O4
   repeat (any_goals (simp only[v1];try (cbv;repeat' first|exact O5|intro β;cbv|apply O4)))
   refine hP [(0,0),(1,0),(2,0),(3,0),(4,0),(5,0)] _ _ _ _ ?_ rfl ?_ (hQ false (fun h=>by cases h))
   ·rfl
   ·exact aP
  |true=>
  obtain⟨w1,w2,w3⟩:=hq2 rfl;have o26:∀W:Nat→Value,(∀k,k<26→(W k).oneCell'=true)→O26 ⟨W,id,tm,vo,co,ix,it,data,lsp,lnn,lb,lo,lc,ll,fl⟩:=fun W h=>⟨by show ll≤4294967000;omega,h⟩;cbv;repeat' first|exact O5|intro β;cbv|apply O4
  all_goals first|exact o26 _ (sN rfl)|skip
  refine aD hN [8] (by decide) rfl ?_ ?_ (fun F1=>hB49 ⟨id,0,tm,vo,co,data,ix,it,OL (.slice (slA vnn vb vof) vn vcap) (.slice (slA lnn' lb' lof) en' lcap) (.slice (slA onn ob oof) on ocap) (.slice (slA xnn xb xof) xn xcap) (.bool al),β 0,β 1,β 2,ll,β 3⟩ rfl (fun k hk=>(match k,hk with|0,_=>rfl|1,_=>rfl|2,_=>rfl|3,_=>rfl|4,_=>rfl|n+5,h=>absurd h (by omega))) _ F1 ?_)
  ·rfl
  ·exact⟨rfl,trivial⟩
  dsimp only;have hli:(dU ix it es).1=ix+ll:=nD hes w3;generalize dU ix it es=le at hli⊢;obtain⟨li,lt⟩:=le;have P1:0<id:=by rw[hC] at p1;simpa [cmStd] using p1
  have P2:id<1099511627776:=by rw[hC] at p2;simpa [cmStd] using p2
  have P3:1≤ht:=by rw[hC] at p3;simpa [cmStd] using p3
  have P4:ht<et:=by rw[hC] at p4;simpa [cmStd] using p4
  have P5:et≤30:=by rw[hC] at p5;simpa [cmStd] using p5
  have P6:zl≤10:=by rw[hC] at p6;simp only[cmStd,decide_eq_false_iff_not,Int.ofNat_eq_natCast] at p6;omega
  have P7:1≤mi:=by rw[hC] at v1;simpa [cmStd] using v1
  have P8:mi≤100:=by rw[hC] at v2;simpa [cmStd] using v2
  have P9:1048576≤ms:=by rw[hC] at v3;simpa [cmStd] using v3
  have Pa:1048576≤mc:=by rw[hC] at v4;simpa [cmStd] using v4
  have Pb:mu'=0:=by rw[hC] at v5;simpa [cmStd] using v5
  have Pc:tfStd.sz data≤100:=by rw[hC] at v6;simp only[cmStd,decide_eq_false_iff_not,Int.ofNat_eq_natCast] at v6;rw[←etz];omega
  have Pd:1≤it:=by rw[hC] at v9;simpa [cmStd] using v9
  have Pe:tm≤1099511627776:=by rw[hC] at va;simpa [cmStd] using va
  have Pf:vo<1099511627776:=by rw[hC] at vb0;simpa [cmStd] using vb0
  have hfin:ix≤co→co≤li→(ap=0∨ix≤ap∧ap≤co)→lD ⟨id,et,ht,⟨zp,zn,zb,zo,zl,zc,Z⟩,pv,cq,false,nf,sd,ms,mc,mu',mi,data,ix,it,⟨vp,vnn,vb,vof,vcap,vn,V⟩,⟨lp,lnn',lb',lof,lcap,en',L⟩,⟨op',onn,ob,oof,ocap,on,O⟩,⟨xp,xnn,xb,xof,xcap,xn,X⟩,al,lsp,lnn,lb,lo,lc,ll,es,fl,tm,vo,co,ap⟩:=fun a1 a2 a3=>⟨P1,P2,P3,P4,P5,P6,(by intro h;first|rfl|cases h),P7,P8,P9,Pa,Pb,hq1 rfl,Pc,k7,k8,Pd,Pe,Pf,⟨w1,w2,w3⟩,a1,(by show co≤ix+(ll:Int);rw[←hli];exact a2),a3⟩;cbv;repeat' first|exact O5|intro β;cbv|apply O4
  rcases y1:CM .le ix co with _|_
  ·repeat (any_goals (simp only[y1];try (cbv;repeat' first|exact O5|intro β;cbv|apply O4)))
   refine hP [(0,0),(1,0),(2,0),(3,0),(4,0),(5,0)] _ _ _ _ ?_ rfl ?_ (hQ false (fun h=>by cases h))
   ·rfl
   ·exact aP
  repeat (any_goals (simp only[y1];try (cbv;repeat' first|exact O5|intro β;cbv|apply O4)))
  rcases y2:CM .le co li with _|_
  ·repeat (any_goals (simp only[y1,y2];try (cbv;repeat' first|exact O5|intro β;cbv|apply O4)))
   refine hP [(0,0),(1,0),(2,0),(3,0),(4,0),(5,0)] _ _ _ _ ?_ rfl ?_ (hQ false (fun h=>by cases h))
   ·rfl
   ·exact aP
  repeat (any_goals (simp only[y1,y2];try (cbv;repeat' first|exact O5|intro β;cbv|apply O4)))
  have Y1:ix≤co:=by rw[hC] at y1;simpa [cmStd] using y1
  have Y2:co≤li:=by rw[hC] at y2;simpa [cmStd] using y2
  rcases y3:CM .eq ap 0 with _|_
  rotate_left
  ·have Y3:ap=0:=by rw[hC] at y3;simpa [cmStd] using y3
   repeat (any_goals (simp only[y1,y2,y3];try (cbv;repeat' first|exact O5|intro β;cbv|apply O4)))
   refine hP [(0,0),(1,0),(2,0),(3,0),(4,0),(5,0)] _ _ _ _ ?_ rfl ?_ (hQ true (fun _=>hfin Y1 Y2 (.inl Y3)))
   ·rfl
   ·exact aP
  repeat (any_goals (simp only[y1,y2,y3];try (cbv;repeat' first|exact O5|intro β;cbv|apply O4)))
  rcases y4:CM .le ix ap with _|_
  ·repeat (any_goals (simp only[y1,y2,y3,y4];try (cbv;repeat' first|exact O5|intro β;cbv|apply O4)))
   refine hP [(0,0),(1,0),(2,0),(3,0),(4,0),(5,0)] _ _ _ _ ?_ rfl ?_ (hQ false (fun h=>by cases h))
   ·rfl
   ·exact aP
  repeat (any_goals (simp only[y1,y2,y3,y4];try (cbv;repeat' first|exact O5|intro β;cbv|apply O4)))
  rcases y5:CM .le ap co with _|_
  ·repeat (any_goals (simp only[y1,y2,y3,y4,y5];try (cbv;repeat' first|exact O5|intro β;cbv|apply O4)))
   refine hP [(0,0),(1,0),(2,0),(3,0),(4,0),(5,0)] _ _ _ _ ?_ rfl ?_ (hQ false (fun h=>by cases h))
   ·rfl
   ·exact aP
  repeat (any_goals (simp only[y1,y2,y3,y4,y5];try (cbv;repeat' first|exact O5|intro β;cbv|apply O4)))
  have Y4:ix≤ap:=by rw[hC] at y4;simpa [cmStd] using y4
  have Y5:ap≤co:=by rw[hC] at y5;simpa [cmStd] using y5
  refine hP [(0,0),(1,0),(2,0),(3,0),(4,0),(5,0)] _ _ _ _ ?_ rfl ?_ (hQ true (fun _=>hfin Y1 Y2 (.inr ⟨Y4,Y5⟩)))
  ·rfl
  ·exact aP
 |true=>
  cases cq with
  |false=>
   cbv;repeat' first|exact O5|intro β;cbv|apply O4
   repeat (any_goals (simp only[p1];try (cbv;repeat' first|exact O5|intro β;cbv|apply O4)))
   refine hP [(0,0),(1,0),(2,0),(3,0),(4,0),(5,0)] _ _ _ _ ?_ rfl ?_ (hQ false (fun h=>by cases h))
   ·rfl
   ·exact aP
  |true=>
   cbv;repeat' first|exact O5|intro β;cbv|apply O4
   rename_i bx bx2;refine hL _ {i:Nat//i≤zl} (fun i j=>eO 180 j [(1,.ptr 6 (bx 0) 0),(2,.bl false),(44,.sl 0 zn zb zo zl zc),(45,.i .i64 zl),(46,.i .i64 i.1)])
    (fun _=>[.prd (.sl zp zn zb zo zc (.ul 3 .i64 zl Z)),.prd (.sl vp vnn vb vof vcap (.ul 22 .u64 vn V)),.prd (.sl lp lnn' lb' lof lcap (.ul 22 .u64 en' L)),.prd (.sl op' onn ob oof ocap (.ul 22 .u64 on O)),.prd (.sl xp xnn xb xof xcap (.ul 22 .u64 xn X)),.prd (.sl lsp lnn lb lo lc (.sl 81 4 ll fl)),
     .raw true (bx 0) 33 (iT.cs ⟨id,et,ht,⟨zp,zn,zb,zo,zl,zc,Z⟩,pv,true,true,nf,sd,ms,mc,mu',mi,data,ix,it,⟨vp,vnn,vb,vof,vcap,vn,V⟩,⟨lp,lnn',lb',lof,lcap,en',L⟩,⟨op',onn,ob,oof,ocap,on,O⟩,⟨xp,xnn,xb,xof,xcap,xn,X⟩,al,lsp,lnn,lb,lo,lc,ll,es,fl,tm,vo,co,ap⟩ 0 1 2 3 4 5)]) (fun i=>zl-i.1) ⟨0,by omega⟩ [(0,0),(1,0),(2,0),(3,0),(4,0),(5,0),(6,0)] _ _ (by decide+kernel) ?_ ?_
   ·exact⟨by cbv,by cbv,by cbv,⟨rfl,rfl,rfl,rfl,rfl,rfl,⟨rfl,rfl,rfl,rfl⟩,trivial⟩⟩
   rintro⟨i,hi⟩ j LP hsat2 hLP hX hR;change i≤zl at hi;rcases Nat.lt_or_ge i zl with h|h
   ·obtain⟨k,rfl⟩:=hnn0 (by omega);have h1:CM .lt (Int.ofNat i) (Int.ofNat zl)=true:=O6;have h3:CM .le 0 (Int.ofNat i)=true:=O6;have hadd:AR .add .i64 (Int.ofNat i) 1=Int.ofNat (i+1):=by rw[hA];exact fU (by omega)
    cbv;repeat' first|exact O5|intro β;cbv|apply O4
    repeat (any_goals (simp only[h1];try (cbv;repeat' first|exact O5|intro β;cbv|apply O4)))
    rcases u1:CM .lt (NI Z i) 0 with _|_
    rotate_left
    ·repeat (any_goals (simp only[u1];try (cbv;repeat' first|exact O5|intro β;cbv|apply O4)))
     apply hR;cbv;repeat' first|exact O5|intro β;cbv|apply O4
     refine hP [(0,0),(1,0),(2,0),(3,0),(4,0),(5,0)] _ _ _ _ ?_ rfl ?_ (hQ false (fun h=>by cases h))
     ·rfl
     ·exact aP
    repeat (any_goals (simp only[u1];try (cbv;repeat' first|exact O5|intro β;cbv|apply O4)))
    rcases u2:CM .le et (NI Z i) with _|_
    rotate_left
    ·repeat (any_goals (simp only[u1,u2];try (cbv;repeat' first|exact O5|intro β;cbv|apply O4)))
     apply hR;cbv;repeat' first|exact O5|intro β;cbv|apply O4
     refine hP [(0,0),(1,0),(2,0),(3,0),(4,0),(5,0)] _ _ _ _ ?_ rfl ?_ (hQ false (fun h=>by cases h))
     ·rfl
     ·exact aP
    repeat (any_goals (simp only[u1,u2];try (cbv;repeat' first|exact O5|intro β;cbv|apply O4)))
    repeat (any_goals (simp only[hadd];try (cbv;repeat' first|exact O5|intro β;cbv|apply O4)))
    exact hLP ⟨i+1,by show i+1≤zl;omega⟩ [(0,0),(1,0),(2,0),(3,0),(4,0),(5,0),(6,0)] _ (by show zl-(i+1)<zl-i;omega) ⟨rfl,rfl,rfl,⟨rfl,rfl,rfl,rfl,rfl,rfl,⟨rfl,rfl,rfl,rfl⟩,trivial⟩⟩
   have h1:CM .lt (Int.ofNat i) (Int.ofNat zl)=false:=O6;cbv;repeat' first|exact O5|intro β;cbv|apply O4
   repeat (any_goals (simp only[h1];try (cbv;repeat' first|exact O5|intro β;cbv|apply O4)))
   apply hX;cbv;repeat' first|exact O5|intro β;cbv|apply O4
   rcases v1:CM .lt mi 1 with _|_
   rotate_left
   ·repeat (any_goals (simp only[v1];try (cbv;repeat' first|exact O5|intro β;cbv|apply O4)))
    refine hP [(0,0),(1,0),(2,0),(3,0),(4,0),(5,0)] _ _ _ _ ?_ rfl ?_ (hQ false (fun h=>by cases h))
    ·rfl
    ·exact aP
   repeat (any_goals (simp only[v1];try (cbv;repeat' first|exact O5|intro β;cbv|apply O4)))
   rcases v2:CM .lt 100 mi with _|_
   rotate_left
   ·repeat (any_goals (simp only[v1,v2];try (cbv;repeat' first|exact O5|intro β;cbv|apply O4)))
    refine hP [(0,0),(1,0),(2,0),(3,0),(4,0),(5,0)] _ _ _ _ ?_ rfl ?_ (hQ false (fun h=>by cases h))
    ·rfl
    ·exact aP
   repeat (any_goals (simp only[v1,v2];try (cbv;repeat' first|exact O5|intro β;cbv|apply O4)))
   rcases v3:CM .lt ms 1048576 with _|_
   rotate_left
   ·repeat (any_goals (simp only[v1,v2,v3];try (cbv;repeat' first|exact O5|intro β;cbv|apply O4)))
    refine hP [(0,0),(1,0),(2,0),(3,0),(4,0),(5,0)] _ _ _ _ ?_ rfl ?_ (hQ false (fun h=>by cases h))
    ·rfl
    ·exact aP
   repeat (any_goals (simp only[v1,v2,v3];try (cbv;repeat' first|exact O5|intro β;cbv|apply O4)))
   rcases v4:CM .lt mc 1048576 with _|_
   rotate_left
   ·repeat (any_goals (simp only[v1,v2,v3,v4];try (cbv;repeat' first|exact O5|intro β;cbv|apply O4)))
    refine hP [(0,0),(1,0),(2,0),(3,0),(4,0),(5,0)] _ _ _ _ ?_ rfl ?_ (hQ false (fun h=>by cases h))
    ·rfl
    ·exact aP
   repeat (any_goals (simp only[v1,v2,v3,v4];try (cbv;repeat' first|exact O5|intro β;cbv|apply O4)))
   rcases v5:CM .ne mu' 0 with _|_
   rotate_left
   ·repeat (any_goals (simp only[v1,v2,v3,v4,v5];try (cbv;repeat' first|exact O5|intro β;cbv|apply O4)))
    refine hP [(0,0),(1,0),(2,0),(3,0),(4,0),(5,0)] _ _ _ _ ?_ rfl ?_ (hQ false (fun h=>by cases h))
    ·rfl
    ·exact aP
   repeat (any_goals (simp only[v1,v2,v3,v4,v5];try (cbv;repeat' first|exact O5|intro β;cbv|apply O4)))
   refine aD hN [1,2,3,4] (by decide) rfl ?_ ?_ (fun F1=>hB60 _ F1 (fun q1 hq1=>?_))
   ·rfl
   ·exact⟨rfl,rfl,rfl,rfl,trivial⟩
   cases q1 with
   |false=>
    cbv;repeat' first|exact O5|intro β;cbv|apply O4
    repeat (any_goals (simp only[v1];try (cbv;repeat' first|exact O5|intro β;cbv|apply O4)))
    refine hP [(0,0),(1,0),(2,0),(3,0),(4,0),(5,0)] _ _ _ _ ?_ rfl ?_ (hQ false (fun h=>by cases h))
    ·rfl
    ·exact aP
   |true=>
   cbv;repeat' first|exact O5|intro β;cbv|apply O4
   rcases v6:CM .lt 100 (Int.ofNat (tz data)) with _|_
   rotate_left
   ·repeat (any_goals (simp only[v6];try (cbv;repeat' first|exact O5|intro β;cbv|apply O4)))
    refine hP [(0,0),(1,0),(2,0),(3,0),(4,0),(5,0)] _ _ _ _ ?_ rfl ?_ (hQ false (fun h=>by cases h))
    ·rfl
    ·exact aP
   repeat (any_goals (simp only[v6];try (cbv;repeat' first|exact O5|intro β;cbv|apply O4)))
   rcases v7:CM .lt ix 1 with _|_
   rotate_left
   ·repeat (any_goals (simp only[v6,v7];try (cbv;repeat' first|exact O5|intro β;cbv|apply O4)))
    refine hP [(0,0),(1,0),(2,0),(3,0),(4,0),(5,0)] _ _ _ _ ?_ rfl ?_ (hQ false (fun h=>by cases h))
    ·rfl
    ·exact aP
   repeat (any_goals (simp only[v6,v7];try (cbv;repeat' first|exact O5|intro β;cbv|apply O4)))
   rcases v8:CM .lt 1099511627776 ix with _|_
   rotate_left
   ·repeat (any_goals (simp only[v6,v7,v8];try (cbv;repeat' first|exact O5|intro β;cbv|apply O4)))
    refine hP [(0,0),(1,0),(2,0),(3,0),(4,0),(5,0)] _ _ _ _ ?_ rfl ?_ (hQ false (fun h=>by cases h))
    ·rfl
    ·exact aP
   repeat (any_goals (simp only[v6,v7,v8];try (cbv;repeat' first|exact O5|intro β;cbv|apply O4)))
   rcases v9:CM .lt it 1 with _|_
   rotate_left
   ·repeat (any_goals (simp only[v6,v7,v8,v9];try (cbv;repeat' first|exact O5|intro β;cbv|apply O4)))
    refine hP [(0,0),(1,0),(2,0),(3,0),(4,0),(5,0)] _ _ _ _ ?_ rfl ?_ (hQ false (fun h=>by cases h))
    ·rfl
    ·exact aP
   repeat (any_goals (simp only[v6,v7,v8,v9];try (cbv;repeat' first|exact O5|intro β;cbv|apply O4)))
   rcases va:CM .lt 1099511627776 tm with _|_
   rotate_left
   ·repeat (any_goals (simp only[v6,v7,v8,v9,va];try (cbv;repeat' first|exact O5|intro β;cbv|apply O4)))
    refine hP [(0,0),(1,0),(2,0),(3,0),(4,0),(5,0)] _ _ _ _ ?_ rfl ?_ (hQ false (fun h=>by cases h))
    ·rfl
    ·exact aP
   repeat (any_goals (simp only[v6,v7,v8,v9,va];try (cbv;repeat' first|exact O5|intro β;cbv|apply O4)))
   rcases vb0:CM .le 1099511627776 vo with _|_
   rotate_left
   ·repeat (any_goals (simp only[v6,v7,v8,v9,va,vb0];try (cbv;repeat' first|exact O5|intro β;cbv|apply O4)))
    refine hP [(0,0),(1,0),(2,0),(3,0),(4,0),(5,0)] _ _ _ _ ?_ rfl ?_ (hQ false (fun h=>by cases h))
    ·rfl
    ·exact aP
   repeat (any_goals (simp only[v6,v7,v8,v9,va,vb0];try (cbv;repeat' first|exact O5|intro β;cbv|apply O4)))
   have k7:1≤ix:=by rw[hC] at v7;simp only[cmStd,decide_eq_false_iff_not] at v7;omega
   have k8:ix≤1099511627776:=by rw[hC] at v8;simp only[cmStd,decide_eq_false_iff_not] at v8;omega
   refine aD hN [5] (by decide) rfl ?_ ?_ (fun F1=>hB61 _ F1 (by omega) k8 (fun q2 hq2=>?_))
   ·rfl
   ·exact⟨rfl,trivial⟩
   cases q2 with
   |false=>
    cbv;repeat' first|exact O5|intro β;cbv|apply O4
    repeat (any_goals (simp only[v1];try (cbv;repeat' first|exact O5|intro β;cbv|apply O4)))
    refine hP [(0,0),(1,0),(2,0),(3,0),(4,0),(5,0)] _ _ _ _ ?_ rfl ?_ (hQ false (fun h=>by cases h))
    ·rfl
    ·exact aP
   |true=>
   obtain⟨w1,w2,w3⟩:=hq2 rfl;have o26:∀W:Nat→Value,(∀k,k<26→(W k).oneCell'=true)→O26 ⟨W,id,tm,vo,co,ix,it,data,lsp,lnn,lb,lo,lc,ll,fl⟩:=fun W h=>⟨by show ll≤4294967000;omega,h⟩;cbv;repeat' first|exact O5|intro β;cbv|apply O4
   all_goals first|exact o26 _ (sN rfl)|skip
   refine aD hN [8] (by decide) rfl ?_ ?_ (fun F1=>hB49 ⟨id,0,tm,vo,co,data,ix,it,OL (.slice (slA vnn vb vof) vn vcap) (.slice (slA lnn' lb' lof) en' lcap) (.slice (slA onn ob oof) on ocap) (.slice (slA xnn xb xof) xn xcap) (.bool al),β 0,β 1,β 2,ll,β 3⟩ rfl (fun k hk=>(match k,hk with|0,_=>rfl|1,_=>rfl|2,_=>rfl|3,_=>rfl|4,_=>rfl|n+5,h=>absurd h (by omega))) _ F1 ?_)
   ·rfl
   ·exact⟨rfl,trivial⟩
   dsimp only;have hli:(dU ix it es).1=ix+ll:=nD hes w3;generalize dU ix it es=le at hli⊢;obtain⟨li,lt⟩:=le;have P1:0<id:=by rw[hC] at p1;simpa [cmStd] using p1
   have P2:id<1099511627776:=by rw[hC] at p2;simpa [cmStd] using p2
   have P3:1≤ht:=by rw[hC] at p3;simpa [cmStd] using p3
   have P4:ht<et:=by rw[hC] at p4;simpa [cmStd] using p4
   have P5:et≤30:=by rw[hC] at p5;simpa [cmStd] using p5
   have P6:zl≤10:=by rw[hC] at p6;simp only[cmStd,decide_eq_false_iff_not,Int.ofNat_eq_natCast] at p6;omega
   have P7:1≤mi:=by rw[hC] at v1;simpa [cmStd] using v1
   have P8:mi≤100:=by rw[hC] at v2;simpa [cmStd] using v2
   have P9:1048576≤ms:=by rw[hC] at v3;simpa [cmStd] using v3
   have Pa:1048576≤mc:=by rw[hC] at v4;simpa [cmStd] using v4
   have Pb:mu'=0:=by rw[hC] at v5;simpa [cmStd] using v5
   have Pc:tfStd.sz data≤100:=by rw[hC] at v6;simp only[cmStd,decide_eq_false_iff_not,Int.ofNat_eq_natCast] at v6;rw[←etz];omega
   have Pd:1≤it:=by rw[hC] at v9;simpa [cmStd] using v9
   have Pe:tm≤1099511627776:=by rw[hC] at va;simpa [cmStd] using va
   have Pf:vo<1099511627776:=by rw[hC] at vb0;simpa [cmStd] using vb0
   have hfin:ix≤co→co≤li→(ap=0∨ix≤ap∧ap≤co)→lD ⟨id,et,ht,⟨zp,zn,zb,zo,zl,zc,Z⟩,pv,true,true,nf,sd,ms,mc,mu',mi,data,ix,it,⟨vp,vnn,vb,vof,vcap,vn,V⟩,⟨lp,lnn',lb',lof,lcap,en',L⟩,⟨op',onn,ob,oof,ocap,on,O⟩,⟨xp,xnn,xb,xof,xcap,xn,X⟩,al,lsp,lnn,lb,lo,lc,ll,es,fl,tm,vo,co,ap⟩:=fun a1 a2 a3=>⟨P1,P2,P3,P4,P5,P6,(by intro h;first|rfl|cases h),P7,P8,P9,Pa,Pb,hq1 rfl,Pc,k7,k8,Pd,Pe,Pf,⟨w1,w2,w3⟩,a1,(by show co≤ix+(ll:Int);rw[←hli];exact a2),a3⟩;cbv;repeat' first|exact O5|intro β;cbv|apply O4
   rcases y1:CM .le ix co with _|_
   ·repeat (any_goals (simp only[y1];try (cbv;repeat' first|exact O5|intro β;cbv|apply O4)))
    refine hP [(0,0),(1,0),(2,0),(3,0),(4,0),(5,0)] _ _ _ _ ?_ rfl ?_ (hQ false (fun h=>by cases h))
    ·rfl
    ·exact aP
   repeat (any_goals (simp only[y1];try (cbv;repeat' first|exact O5|intro β;cbv|apply O4)))
   rcases y2:CM .le co li with _|_
   ·repeat (any_goals (simp only[y1,y2];try (cbv;repeat' first|exact O5|intro β;cbv|apply O4)))
    refine hP [(0,0),(1,0),(2,0),(3,0),(4,0),(5,0)] _ _ _ _ ?_ rfl ?_ (hQ false (fun h=>by cases h))
    ·rfl
    ·exact aP
   repeat (any_goals (simp only[y1,y2];try (cbv;repeat' first|exact O5|intro β;cbv|apply O4)))
   have Y1:ix≤co:=by rw[hC] at y1;simpa [cmStd] using y1
   have Y2:co≤li:=by rw[hC] at y2;simpa [cmStd] using y2
   rcases y3:CM .eq ap 0 with _|_
   rotate_left
   ·have Y3:ap=0:=by rw[hC] at y3;simpa [cmStd] using y3
    repeat (any_goals (simp only[y1,y2,y3];try (cbv;repeat' first|exact O5|intro β;cbv|apply O4)))
    refine hP [(0,0),(1,0),(2,0),(3,0),(4,0),(5,0)] _ _ _ _ ?_ rfl ?_ (hQ true (fun _=>hfin Y1 Y2 (.inl Y3)))
    ·rfl
    ·exact aP
   repeat (any_goals (simp only[y1,y2,y3];try (cbv;repeat' first|exact O5|intro β;cbv|apply O4)))
   rcases y4:CM .le ix ap with _|_
   ·repeat (any_goals (simp only[y1,y2,y3,y4];try (cbv;repeat' first|exact O5|intro β;cbv|apply O4)))
    refine hP [(0,0),(1,0),(2,0),(3,0),(4,0),(5,0)] _ _ _ _ ?_ rfl ?_ (hQ false (fun h=>by cases h))
    ·rfl
    ·exact aP
   repeat (any_goals (simp only[y1,y2,y3,y4];try (cbv;repeat' first|exact O5|intro β;cbv|apply O4)))
   rcases y5:CM .le ap co with _|_
   ·repeat (any_goals (simp only[y1,y2,y3,y4,y5];try (cbv;repeat' first|exact O5|intro β;cbv|apply O4)))
    refine hP [(0,0),(1,0),(2,0),(3,0),(4,0),(5,0)] _ _ _ _ ?_ rfl ?_ (hQ false (fun h=>by cases h))
    ·rfl
    ·exact aP
   repeat (any_goals (simp only[y1,y2,y3,y4,y5];try (cbv;repeat' first|exact O5|intro β;cbv|apply O4)))
   have Y4:ix≤ap:=by rw[hC] at y4;simpa [cmStd] using y4
   have Y5:ap≤co:=by rw[hC] at y5;simpa [cmStd] using y5
   refine hP [(0,0),(1,0),(2,0),(3,0),(4,0),(5,0)] _ _ _ _ ?_ rfl ?_ (hQ true (fun _=>hfin Y1 Y2 (.inr ⟨Y4,Y5⟩)))
   ·rfl
   ·exact aP
end Go.Sx
