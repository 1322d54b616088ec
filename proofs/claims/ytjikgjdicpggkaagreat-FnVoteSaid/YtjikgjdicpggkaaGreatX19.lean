import Derived.Test.YtjikgjdicpggkaaGreatX06
set_option autoImplicit true
set_option relaxedAutoImplicit true
set_option linter.all false
set_option maxRecDepth 100000
set_option maxHeartbeats 4000000
namespace Go.Sx
open Go Go.Proofs
inductive O303 (n:Int):Prop where
 |mk (h0:0≤n) (h1:n<18446744073709551616)
def GA:cJ Pay where
 X:=Int
 args:=fun n=>[.i .u64 n]
 pre:=fun _=>[]
 obl:=fun n=>O303 n
 res:=fun _ β=>.i .i64 (Int.ofNat (β 0))
 fact:=fun _ β=>some (β 0≤10)
theorem KN:GA.ok Tryz.prog 303:=by intro x F w ho hs;obtain⟨h0,h1⟩:=ho;refine(wH x h0 h1 w).mono fun e w' h=>?_;obtain⟨k,_,h2,rfl,rfl⟩:=h;refine .inr ⟨fun _=>k,h2,rfl,?_⟩;exact hs
def m303 (args:List SV):SM Pay (GA.X×List Nat):=match args with
 |[n]=>match bG n with
  |some (_,_,n)=>.ret (n,[])|none=>.fail
 |_=>.fail
theorem x303:cI 303:=⟨_,Tryz.func303,rfl,by decide⟩
def r303:aN:=⟨303,0,true,GA.app m303,GA.app_ok KN m303,fun h=>by cases h⟩
inductive CH (t i:Int) (n:Nat):Prop where
 |mk (h1:O303 t) (h2:O303 i) (h3:n≤100)
def H5:cJ Pay where
 X:=Nat×Int×Int×Nat×Option (List UInt8)
 args:=fun(b,t,i,n,d)=>[.ptr 0 b 0]
 pre:=fun(b,t,i,n,d)=>[.prd (.st b 212 [.oi 22 .u64 (some t),.oi 22 .u64 (some i),.oi 306 .i32 none,.bys 5 n d])]
 obl:=fun(b,t,i,n,d)=>CH t i n
 res:=fun _ β=>.i .i64 (Int.ofNat (β 0))
 fact:=fun(b,t,i,n,d) β=>some (β 0≤140)
theorem F8:H5.ok Tryz.prog 238:=by
 refine aJ ⟨false,false⟩ (fun _=>[r303]) (fun _=>(.cons x303 .nil)) _ Tryz.func238 Tryz.ntmps238 rfl rfl ?_;intros;rename_i AR hA _ _ _ _ _ _ _ _ hU hI hL _ x _ _ ho hsat hP;obtain⟨b,t,i,n,d⟩:=x;obtain⟨ht,hi,hn⟩:=ho;change n≤100 at hn;have hon:O303 (n:Int):=⟨by omega,by omega⟩;have hon':O303 (Int.ofNat n):=hon;have e1:AR .conv .u64 (Int.ofNat n) 0=Int.ofNat n:=by rw[hA];show IntKind.u64.wrap _=_;rw[IntKind.wrap_u64];simp only[Int.ofNat_eq_natCast];omega
 have e2:∀a b:Nat,a≤100000→b≤100000→AR .add .i64 (Int.ofNat a) (Int.ofNat b)=Int.ofNat (a+b):=by intro a b _ _;rw[hA];simp only[arStd,IntKind.wrap_i64,Int.ofNat_eq_natCast];omega
 have e3:∀a:Nat,a≤100000→AR .add .i64 1 (Int.ofNat a)=Int.ofNat (1+a):=by intro a _;rw[hA];simp only[arStd,IntKind.wrap_i64,Int.ofNat_eq_natCast];omega
 have e4:∀a:Nat,a≤100000→AR .add .i64 0 (Int.ofNat a)=Int.ofNat a:=by intro a _;rw[hA];simp only[arStd,IntKind.wrap_i64,Int.ofNat_eq_natCast];omega
 cbv;repeat' first|exact O5|intro β;cbv|apply O4
 rename_i t0 t1 t2 v1 g1 i1 i2 v2 g2;have g1:v1 0≤10:=g1;have g2:v2 0≤10:=g2;rcases hb:β 3 with _|q
 ·cbv;repeat' first|exact O5|intro β;cbv|apply O4
  rw[e3 (v1 0) (by omega),e3 (v2 0) (by omega),e4 (1+v1 0) (by omega),e2 (1+v1 0) (1+v2 0) (by omega) (by omega)];exact hP (fun _=>1+v1 0+(1+v2 0)) [(0,0)] _ _ rfl ⟨by show 1+v1 0+(1+v2 0)≤140;omega,rfl,rfl,⟨rfl,trivial⟩⟩
 ·cbv;repeat' first|exact O5|intro β;cbv|apply O4
  ·rw[e1];exact hon'
  rename_i b3;have g3:b3 7 0≤10:=β;rw[e3 (v1 0) (by omega),e3 (v2 0) (by omega),e3 (b3 7 0) (by omega),e4 (1+v1 0) (by omega),e2 (1+v1 0) (1+v2 0) (by omega) (by omega),e2 (1+b3 7 0) n (by omega) (by omega),e2 _ _ (by omega) (by omega)];exact hP (fun _=>1+v1 0+(1+v2 0)+(1+b3 7 0+n)) [(0,0)] _ _ rfl ⟨by show 1+v1 0+(1+v2 0)+(1+b3 7 0+n)≤140;omega,rfl,rfl,⟨rfl,trivial⟩⟩
def m238 (args:List SV):SM Pay (H5.X×List Nat):=match args with
 |[.ptr h b _]=>.rdC h fun c=>match c with
  |.prd (.st _ _ [.oi _ _ (some t),.oi _ _ (some i),_,.bys _ n d])=>.ret ((b,t,i,n,d),[h])|_=>.fail
 |_=>.fail
theorem x238:cI 238:=⟨_,Tryz.func238,rfl,by decide⟩
def r238:aN:=⟨238,0,true,H5.app m238,H5.app_ok F8 m238,fun h=>by cases h⟩
def EnsOK (l:List FV) (n:Nat):Prop:=∀j,j<n→∃t i m d,nth l j=.st 212 [.oi 22 .u64 (some t),.oi 22 .u64 (some i),.oi 306 .i32 none,.bys 5 m d]∧O303 t∧O303 i∧m≤100
inductive NG (l:List FV) (n:Nat) (mx:Int):Prop where
 |mk (h1:EnsOK l n) (h2:n≤100) (h3:20000≤mx) (h4:mx<18446744073709551616)
def G7:cJ Pay where
 X:=(Bool×Nat×Nat×Nat×Nat×Nat×List FV)×Int
 args:=fun((sp,nn,b,off,cap,n,l),mx)=>[.sl 0 nn b off n cap,.i .u64 mx]
 pre:=fun((sp,nn,b,off,cap,n,l),mx)=>[.prd (.sl sp nn b off cap (.sl 209 1 n l))]
 obl:=fun((sp,nn,b,off,cap,n,l),mx)=>NG l n mx
 res:=fun((sp,nn,b,off,cap,n,l),mx) _=>.sl 0 nn b off n cap
theorem II:G7.ok Tryz.prog 216:=by
 refine aJ ⟨false,false⟩ (fun _=>[r238]) (fun _=>(.cons x238 .nil)) _ Tryz.func216 Tryz.ntmps216 rfl rfl ?_;intros;rename_i hNF _ _ _ _ _ _ _ _ AR hA CM hC _ _ _ _ _ _ hU hI hL _ x _ _ ho hsat hP;obtain⟨⟨sp,nn,b,off,cap,n,l⟩,mx⟩:=x;obtain⟨h1,h2,h3,h4⟩:=ho;change EnsOK l n at h1;change n≤100 at h2;change 20000≤mx at h3;change mx<18446744073709551616 at h4;have k1:∀a:Nat,a≤2000000→AR .conv .u64 (Int.ofNat a) 0=Int.ofNat a:=by intro a _;rw[hA];show IntKind.u64.wrap _=_;rw[IntKind.wrap_u64];simp only[Int.ofNat_eq_natCast];omega
 have k2:∀a b:Nat,a≤2000000→b≤2000000→AR .add .u64 (Int.ofNat a) (Int.ofNat b)=Int.ofNat (a+b):=by intro a b _ _;rw[hA];simp only[arStd,IntKind.wrap_u64,Int.ofNat_eq_natCast];omega
 have k3:∀a:Nat,a≤14000→CM .lt mx (Int.ofNat a)=false:=by intro a _;rw[hC];simp only[cmStd,decide_eq_false_iff_not,Int.ofNat_eq_natCast];omega
 rcases Nat.eq_zero_or_pos n with h0|h0
 ·subst h0;have c0:CM .eq (Int.ofNat 0) 0=true:=O6;cbv;repeat' first|exact O5|intro β;cbv|apply O4
  repeat (any_goals (simp only[c0];try (cbv;repeat' first|exact O5|intro β;cbv|apply O4)))
  exact hP (fun _=>0) [(0,0)] _ _ rfl ⟨trivial,rfl,rfl,⟨rfl,trivial⟩⟩
 ·have c0:CM .eq (Int.ofNat n) 0=false:=O6;have g1:CM .lt 0 (Int.ofNat n)=true:=O6;obtain⟨t,i,m,d,e0,o1,o2,o3⟩:=h1 0 h0;rw[←hNF] at e0;obtain⟨k,rfl⟩:∃k,nn=k+1:=by
   obtain⟨w,F,hs⟩:=hsat;have:=dG (f:=.sl 209 1 n l) rfl h0 (by show 0<1;omega) (bY (h:=0) rfl hs);exact⟨nn-1,by omega⟩
  have o238:CH t i m:=⟨o1,o2,o3⟩;cbv;repeat' first|exact O5|intro β;cbv|apply O4
  repeat (any_goals (simp only[c0,e0];try (cbv;repeat' first|exact O5|intro β;cbv|apply O4)))
  rename_i bL bS;have hb0:bS 0≤140:=β;rw[k1 (bS 0) (by omega)];refine hL _ {x:Nat×Nat//1≤x.1∧x.1≤n∧x.2≤140*x.1} (fun x j=>eO 37 j [(0,.sl 0 (k+1) b off n cap),(1,.i .u64 mx),(5,.i .u64 (Int.ofNat x.1.2)),(6,.i .i64 (Int.ofNat x.1.1))])
   (fun x=>[.prd (.sl sp (k+1) b off cap (.sl 209 1 n l))]) (fun x=>n-x.1.1) ⟨(1,bS 0),by omega,by omega,by show bS 0≤140*1;omega⟩ [(0,0)] _ _ (by decide+kernel) ?_ ?_
  ·exact⟨by cbv,by cbv,by cbv,⟨rfl,trivial⟩⟩
  rintro⟨⟨q,z⟩,hq⟩ j LP hsat2 hLP hX hR;obtain⟨hq1,hq2,hq3⟩:=hq;change 1≤q at hq1;change q≤n at hq2;change z≤140*q at hq3;rcases Nat.lt_or_ge q n with hlt|hge
  ·have f1:CM .lt (Int.ofNat q) (Int.ofNat n)=true:=O6;have f2:CM .le 0 (Int.ofNat q)=true:=O6;have f3:AR .add .i64 (Int.ofNat q) 1=Int.ofNat (q+1):=O7;obtain⟨t,i,m,d,e0,o1,o2,o3⟩:=h1 q hlt;rw[←hNF] at e0;have o238:CH t i m:=⟨o1,o2,o3⟩;cbv;repeat' first|exact O5|intro β;cbv|apply O4
   repeat (any_goals (simp only[f1,f2,e0];try (cbv;repeat' first|exact O5|intro β;cbv|apply O4)))
   rename_i bL bS;have hb0:bS 0≤140:=β;have k2z:=k2 z (bS 0) (by omega) (by omega);obtain⟨z2,hz2⟩:∃z2,z2=z+bS 0:=⟨_,rfl⟩;rw[←hz2] at k2z;rw[k1 (bS 0) (by omega),k2z];have k4:=k3 z2 (by omega)
   repeat (any_goals (simp only[k4,f3];try (cbv;repeat' first|exact O5|intro β;cbv|apply O4)))
   exact hLP ⟨(q+1,z2),by omega,by omega,by show z2≤140*(q+1);omega⟩ [(0,0)] _ (by show n-(q+1)<n-q;omega) ⟨rfl,rfl,rfl,⟨rfl,trivial⟩⟩
  ·have f1:CM .lt (Int.ofNat q) (Int.ofNat n)=false:=O6;cbv;repeat' first|exact O5|intro β;cbv|apply O4
   repeat (any_goals (simp only[f1];try (cbv;repeat' first|exact O5|intro β;cbv|apply O4)))
   apply hX;cbv;repeat' first|exact O5|intro β;cbv|apply O4
   exact hP (fun _=>0) [(0,0)] _ _ rfl ⟨trivial,rfl,rfl,⟨rfl,trivial⟩⟩
def m216 (args:List SV):SM Pay (G7.X×List Nat):=match args with
 |[.sl h nn b off n cap,mx]=>match bG mx with
  |some (_,_,mx)=>.rdC h fun c=>match c with
   |.prd (.sl sp _ _ _ _ (.sl _ _ _ l))=>.ret (((sp,nn,b,off,cap,n,l),mx),[h])|_=>.fail
  |none=>.fail
 |_=>.fail
theorem x216:cI 216:=⟨_,Tryz.func216,rfl,by decide⟩
def r216:aN:=⟨216,0,false,G7.app m216,G7.app_ok II m216,fun _ args base β β'=>rfl⟩
inductive vT (l:List FV) (n:Nat):Prop where
 |mk (h1:EnsOK l n) (h2:n≤100)
def HJ:cJ Pay where
 X:=Bool×Nat×Nat×Nat×Nat×Nat×List FV
 args:=fun(sp,nn,b,off,cap,n,l)=>[.sl 0 nn b off n cap]
 pre:=fun(sp,nn,b,off,cap,n,l)=>[.prd (.sl sp nn b off cap (.sl 209 1 n l))]
 obl:=fun(sp,nn,b,off,cap,n,l)=>vT l n
 res:=fun _ β=>.i .u64 (Int.ofNat (β 0))
 fact:=fun _ β=>some (β 0≤14000)
theorem JA:HJ.ok Tryz.prog 187:=by
 refine aJ ⟨false,false⟩ (fun _=>[r238]) (fun _=>(.cons x238 .nil)) _ Tryz.func187 Tryz.ntmps187 rfl rfl ?_;intros;rename_i hNF _ _ _ _ _ _ _ _ AR hA CM _ _ _ _ _ _ _ hU hI hL _ x _ _ ho hsat hP;obtain⟨sp,nn,b,off,cap,n,l⟩:=x;obtain⟨h1,h2⟩:=ho;change EnsOK l n at h1;change n≤100 at h2;have k1:∀a:Nat,a≤2000000→AR .conv .u64 (Int.ofNat a) 0=Int.ofNat a:=by intro a _;rw[hA];show IntKind.u64.wrap _=_;rw[IntKind.wrap_u64];simp only[Int.ofNat_eq_natCast];omega
 have k2:∀a b:Nat,a≤2000000→b≤2000000→AR .add .u64 (Int.ofNat a) (Int.ofNat b)=Int.ofNat (a+b):=by intro a b _ _;rw[hA];simp only[arStd,IntKind.wrap_u64,Int.ofNat_eq_natCast];omega
 have hnn0:0<n→∃k,nn=k+1:=by intro h0;obtain⟨w,F,hs⟩:=hsat;have:=dG (f:=.sl 209 1 n l) rfl h0 (by show 0<1;omega) (bY (h:=0) rfl hs);exact⟨nn-1,by omega⟩
 cbv;repeat' first|exact O5|intro β;cbv|apply O4
 refine hL _ {x:Nat×Nat//x.1≤n∧x.2≤140*x.1} (fun x j=>eO 19 j [(0,.sl 0 nn b off n cap),(3,.i .u64 (Int.ofNat x.1.2)),(6,.sl 0 nn b off n cap),(7,.i .i64 (Int.ofNat n)),(8,.i .i64 (Int.ofNat x.1.1))])
  (fun x=>[.prd (.sl sp nn b off cap (.sl 209 1 n l))]) (fun x=>n-x.1.1) ⟨(0,0),by omega,by omega⟩ [(0,0)] _ _ (by decide+kernel) ?_ ?_
 ·exact⟨by cbv,by cbv,by cbv,⟨rfl,trivial⟩⟩
 rintro⟨⟨q,z⟩,hq⟩ j LP hsat2 hLP hX hR;obtain⟨hq2,hq3⟩:=hq;change q≤n at hq2;change z≤140*q at hq3;rcases Nat.lt_or_ge q n with hlt|hge
 ·obtain⟨k,rfl⟩:=hnn0 (by omega);have f1:CM .lt (Int.ofNat q) (Int.ofNat n)=true:=O6;have f2:CM .le 0 (Int.ofNat q)=true:=O6;have f3:AR .add .i64 (Int.ofNat q) 1=Int.ofNat (q+1):=O7;obtain⟨t,i,m,d,e0,o1,o2,o3⟩:=h1 q hlt;rw[←hNF] at e0;have o238:CH t i m:=⟨o1,o2,o3⟩;cbv;repeat' first|exact O5|intro β;cbv|apply O4
  repeat (any_goals (simp only[f1,f2,e0];try (cbv;repeat' first|exact O5|intro β;cbv|apply O4)))
  rename_i bL bS;have hb0:bS 0≤140:=β;have k2z:=k2 z (bS 0) (by omega) (by omega);obtain⟨z2,hz2⟩:∃z2,z2=z+bS 0:=⟨_,rfl⟩;rw[←hz2] at k2z;rw[k1 (bS 0) (by omega),k2z,f3];exact hLP ⟨(q+1,z2),by omega,by show z2≤140*(q+1);omega⟩ [(0,0)] _ (by show n-(q+1)<n-q;omega) ⟨rfl,rfl,rfl,⟨rfl,trivial⟩⟩
 ·have f1:CM .lt (Int.ofNat q) (Int.ofNat n)=false:=O6;cbv;repeat' first|exact O5|intro β;cbv|apply O4
  repeat (any_goals (simp only[f1];try (cbv;repeat' first|exact O5|intro β;cbv|apply O4)))
  apply hX;cbv;repeat' first|exact O5|intro β;cbv|apply O4
  exact hP (fun _=>z) [(0,0)] _ _ rfl ⟨by show z≤14000;omega,rfl,rfl,⟨rfl,trivial⟩⟩
def m187 (args:List SV):SM Pay (HJ.X×List Nat):=match args with
 |[.sl h nn b off n cap]=>.rdC h fun c=>match c with
  |.prd (.sl sp _ _ _ _ (.sl _ _ _ l))=>.ret ((sp,nn,b,off,cap,n,l),[h])|_=>.fail
 |_=>.fail
theorem rM:cI 187:=⟨_,Tryz.func187,rfl,by decide⟩
def rD:aN:=⟨187,0,true,HJ.app m187,HJ.app_ok JA m187,fun h=>by cases h⟩
def I3:cJ Pay where
 X:=Bool×Nat×Nat×Nat×Nat×Nat×List FV
 args:=fun(sp,nn,b,off,cap,n,l)=>[.sl 0 nn b off n cap]
 pre:=fun(sp,nn,b,off,cap,n,l)=>[.prd (.sl sp nn b off cap (.sl 209 1 n l))]
 obl:=fun(sp,nn,b,off,cap,n,l)=>vT l n
 res:=fun _ β=>.i .u64 (Int.ofNat (β 0))
 fact:=fun _ β=>some (β 0≤14000)
theorem KD:I3.ok Tryz.prog 189:=by
 refine aJ ⟨false,false⟩ (fun _=>[r204]) (fun _=>(.cons x204 .nil)) _ Tryz.func189 Tryz.ntmps189 rfl rfl ?_;intros;rename_i hNF _ _ _ _ _ _ _ _ AR hA CM _ _ _ _ _ _ _ _ hI hL _ x _ _ ho hsat hP;obtain⟨sp,nn,b,off,cap,n,l⟩:=x;obtain⟨h1,h2⟩:=ho;change EnsOK l n at h1;change n≤100 at h2;have k1:∀a:Nat,a≤2000000→AR .conv .u64 (Int.ofNat a) 0=Int.ofNat a:=by intro a _;rw[hA];show IntKind.u64.wrap _=_;rw[IntKind.wrap_u64];simp only[Int.ofNat_eq_natCast];omega
 have k2:∀a b:Nat,a≤2000000→b≤2000000→AR .add .u64 (Int.ofNat a) (Int.ofNat b)=Int.ofNat (a+b):=by intro a b _ _;rw[hA];simp only[arStd,IntKind.wrap_u64,Int.ofNat_eq_natCast];omega
 have hnn0:0<n→∃k,nn=k+1:=by intro h0;obtain⟨w,F,hs⟩:=hsat;have:=dG (f:=.sl 209 1 n l) rfl h0 (by show 0<1;omega) (bY (h:=0) rfl hs);exact⟨nn-1,by omega⟩
 cbv;repeat' first|exact O5|intro β;cbv|apply O4
 refine hL _ {x:Nat×Nat//x.1≤n∧x.2≤140*x.1} (fun x j=>eO 18 j [(0,.sl 0 nn b off n cap),(3,.i .u64 (Int.ofNat x.1.2)),(6,.sl 0 nn b off n cap),(7,.i .i64 (Int.ofNat n)),(8,.i .i64 (Int.ofNat x.1.1))])
  (fun x=>[.prd (.sl sp nn b off cap (.sl 209 1 n l))]) (fun x=>n-x.1.1) ⟨(0,0),by omega,by omega⟩ [(0,0)] _ _ (by decide+kernel) ?_ ?_
 ·exact⟨by cbv,by cbv,by cbv,⟨rfl,trivial⟩⟩
 rintro⟨⟨q,z⟩,hq⟩ j LP hsat2 hLP hX hR;obtain⟨hq2,hq3⟩:=hq;change q≤n at hq2;change z≤140*q at hq3;rcases Nat.lt_or_ge q n with hlt|hge
 ·obtain⟨k,rfl⟩:=hnn0 (by omega);have f1:CM .lt (Int.ofNat q) (Int.ofNat n)=true:=O6;have f2:CM .le 0 (Int.ofNat q)=true:=O6;have f3:AR .add .i64 (Int.ofNat q) 1=Int.ofNat (q+1):=O7;obtain⟨t,i,m,d,e0,o1,o2,o3⟩:=h1 q hlt;rw[←hNF] at e0;have o238:CH t i m:=⟨o1,o2,o3⟩;cbv;repeat' first|exact O5|intro β;cbv|apply O4
  repeat (any_goals (simp only[f1,f2,e0];try (cbv;repeat' first|exact O5|intro β;cbv|apply O4)))
  refine inl @hI Tryz.func239 Tryz.ntmps239 rfl rfl ?_;cbv;repeat' first|exact O5|intro β;cbv|apply O4
  have k2z:=k2 z m (by omega) (by omega);obtain⟨z2,hz2⟩:∃z2,z2=z+m:=⟨_,rfl⟩;rw[←hz2] at k2z;rw[k1 m (by omega),k2z,f3];exact hLP ⟨(q+1,z2),by omega,by show z2≤140*(q+1);omega⟩ [(0,0)] _ (by show n-(q+1)<n-q;omega) ⟨rfl,rfl,rfl,⟨rfl,trivial⟩⟩
 ·have f1:CM .lt (Int.ofNat q) (Int.ofNat n)=false:=O6;cbv;repeat' first|exact O5|intro β;cbv|apply O4
  repeat (any_goals (simp only[f1];try (cbv;repeat' first|exact O5|intro β;cbv|apply O4)))
  apply hX;cbv;repeat' first|exact O5|intro β;cbv|apply O4
  exact hP (fun _=>z) [(0,0)] _ _ rfl ⟨by show z≤14000;omega,rfl,rfl,⟨rfl,trivial⟩⟩
def m189 (args:List SV):SM Pay (I3.X×List Nat):=match args with
 |[.sl h nn b off n cap]=>.rdC h fun c=>match c with
  |.prd (.sl sp _ _ _ _ (.sl _ _ _ l))=>.ret ((sp,nn,b,off,cap,n,l),[h])|_=>.fail
 |_=>.fail
theorem x189:cI 189:=⟨_,Tryz.func189,rfl,by decide⟩
def r189:aN:=⟨189,0,true,I3.app m189,I3.app_ok KD m189,fun h=>by cases h⟩
def KI (h:Nat) (k:Nat→LGF→Nat→Nat→SM Pay α):SM Pay α:=.rdC h fun c=>match c with
 |.raw _ b _ [.ifc _ (.ptr g sb _),_,_,.i _ off,_,_,.i _ co,.i _ ai,.i _ ad,.i _ mx,.i _ sz,.bl pz]=>k b ⟨off,co,ai,ad,mx,sz,pz⟩ sb g|_=>.fail
def GP:cJ Pay where
 X:=Nat×Nat×LGF
 args:=fun(b,sb,g)=>[.ptr 0 b 0,.bl true]
 pre:=fun(b,sb,g)=>[oO b 1 sb g.r]
 res:=fun(b,sb,g) _=>.i .u64 g.co
theorem JR:GP.ok Tryz.prog 243:=by
 refine aJ ⟨false,false⟩ (fun _=>[]) (fun _=>.nil) _ Tryz.func243 Tryz.ntmps243 rfl rfl ?_;intros;rename_i x _ _ _ _ hP;obtain⟨b,sb,⟨off,co,ai,ad,mx,sz,pz⟩⟩:=x;cbv;repeat' first|exact O5|intro β;cbv|apply O4
 exact hP (fun _=>0) [(0,0)] _ _ rfl ⟨trivial,rfl,rfl,⟨⟨rfl,rfl,rfl,rfl⟩,trivial⟩⟩
def m243 (args:List SV):SM Pay (GP.X×List Nat):=match args with
 |[.ptr h _ _,_]=>KI h fun b g sb _=>.ret ((b,sb,g),[h])|_=>.fail
theorem lZ:cI 243:=⟨_,Tryz.func243,rfl,by decide⟩
def lY:aN:=⟨243,0,false,GP.app m243,GP.app_ok JR m243,fun _ args base β β'=>rfl⟩
def HA:cJ Pay where
 X:=Nat×(Nat→SV)
 args:=fun(b,r)=>[.ptr 0 b 0]
 pre:=fun(b,r)=>[.raw true b 243 [r 0,.bl false,r 1,r 2,r 3]]
 res:=fun _ _=>.bl true
theorem HP:HA.ok Tryz.prog 200:=by
 refine aJ ⟨false,false⟩ (fun _=>[]) (fun _=>.nil) _ Tryz.func200 Tryz.ntmps200 rfl rfl ?_;intros;rename_i x _ _ _ _ hP;obtain⟨b,r⟩:=x;cbv;repeat' first|exact O5|intro β;cbv|apply O4
 exact hP (fun _=>0) [(0,0)] _ _ rfl ⟨trivial,rfl,rfl,⟨⟨rfl,rfl,rfl,rfl⟩,trivial⟩⟩
def m200 (args:List SV):SM Pay (HA.X×List Nat):=match args with
 |[.ptr h b _]=>.rdC h fun c=>match c with
  |.raw _ _ _ [r0,_,r1,r2,r3]=>.ret ((b,fun|0=>r0|1=>r1|2=>r2|_=>r3),[h])|_=>.fail
 |_=>.fail
theorem jV:cI 200:=⟨_,Tryz.func200,rfl,by decide⟩
def jD:aN:=⟨200,0,false,HA.app m200,HA.app_ok HP m200,fun _ args base β β'=>rfl⟩
def IJ:cJ Pay where
 X:=Nat×Nat×LGF
 args:=fun(b,sb,g)=>[.ptr 0 b 0]
 pre:=fun(b,sb,g)=>[oO b 1 sb g.r]
 res:=fun(b,sb,g) _=>.v (.slice none 0 0)
theorem JF:IJ.ok Tryz.prog 241:=by
 refine aJ ⟨false,false⟩ (fun _=>[]) (fun _=>.nil) _ Tryz.func241 Tryz.ntmps241 rfl rfl ?_;intros;rename_i AR hA CM _ _ _ _ _ _ _ _ hI _ _ x _ _ _ _ hP;obtain⟨b,sb,⟨off,co,ai,ad,mx,sz,pz⟩⟩:=x;have a1:AR .sub .u64 off off=0:=by rw[hA];simp only[arStd,IntKind.wrap_u64];omega
 have a2:AR .conv .i64 0 0=0:=by rw[hA];rfl
 have c1:CM .eq 0 0=true:=O6;cbv;repeat' first|exact O5|intro β;cbv|apply O4
 refine inl @hI Tryz.func304 Tryz.ntmps304 rfl rfl ?_;cbv;repeat' first|exact O5|intro β;cbv|apply O4
 repeat (any_goals (simp only[a1,a2,c1];try (cbv;repeat' first|exact O5|intro β;cbv|apply O4)))
 exact hP (fun _=>0) [(0,0)] _ _ rfl ⟨trivial,rfl,rfl,⟨⟨rfl,rfl,rfl,rfl⟩,trivial⟩⟩
def m241 (args:List SV):SM Pay (IJ.X×List Nat):=match args with
 |[.ptr h _ _]=>KI h fun b g sb _=>.ret ((b,sb,g),[h])|_=>.fail
theorem uD:cI 241:=⟨_,Tryz.func241,rfl,by decide⟩
def uZ:aN:=⟨241,0,false,IJ.app m241,IJ.app_ok JF m241,fun _ args base β β'=>rfl⟩
inductive B6 (g:LGF):Prop where
 |mk (h1:g.pz=false) (h2:0≤g.co) (h3:g.co≤g.ai) (h4:g.ai<9223372036854775807)
def yN:cJ Pay where
 X:=Nat×Nat×LGF
 args:=fun(b,sb,g)=>[.ptr 0 b 0,.bl true]
 pre:=fun(b,sb,g)=>[oO b 1 sb g.r]
 obl:=fun(b,sb,g)=>B6 g
 res:=fun(b,sb,g) _=>.v (.slice none 0 0)
theorem BN:yN.ok Tryz.prog 244:=by
 refine aJ ⟨false,false⟩ (fun _=>[lY]) (fun _=>(.cons lZ .nil)) _ Tryz.func244 Tryz.ntmps244 rfl rfl ?_;intros;rename_i AR _ CM _ _ _ _ _ _ _ _ hI _ _ x _ _ ho _ hP;obtain⟨b,sb,⟨off,co,ai,ad,mx,sz,pz⟩⟩:=x;obtain⟨h1,h2,h3,h4⟩:=ho;change pz=false at h1;change 0≤co at h2;change co≤ai at h3;change ai<9223372036854775807 at h4;subst h1;obtain⟨lo,hlo⟩:∃lo:Int,lo=ai+1:=⟨_,rfl⟩;replace hlo:lo=ai+1:=hlo;obtain⟨hi,hhi⟩:∃hi:Int,hi=co+1:=⟨_,rfl⟩;replace hhi:hi=co+1:=hhi;have a1:AR .add .u64 ai 1=lo:=O7;have a2:AR .add .u64 co 1=hi:=O7;have c1:CM .le hi lo=true:=O6;cbv;repeat' first|exact O5|intro β;cbv|apply O4
 refine inl @hI Tryz.func242 Tryz.ntmps242 rfl rfl ?_;cbv;repeat' first|exact O5|intro β;cbv|apply O4
 repeat (any_goals (simp only[a1,a2,c1];try (cbv;repeat' first|exact O5|intro β;cbv|apply O4)))
 exact hP (fun _=>0) [(0,0)] _ _ rfl ⟨trivial,rfl,rfl,⟨⟨rfl,rfl,rfl,rfl⟩,trivial⟩⟩
def K1 (args:List SV):SM Pay (yN.X×List Nat):=match args with
 |[.ptr h _ _,_]=>KI h fun b g sb _=>.ret ((b,sb,g),[h])|_=>.fail
theorem K9:cI 244:=⟨_,Tryz.func244,rfl,by decide⟩
def KS:aN:=⟨244,0,false,yN.app K1,yN.app_ok BN K1,fun _ args base β β'=>rfl⟩
end Go.Sx
