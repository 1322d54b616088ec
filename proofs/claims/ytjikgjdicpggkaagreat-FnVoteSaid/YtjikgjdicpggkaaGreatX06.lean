import Derived.Test.YtjikgjdicpggkaaGreatX05
set_option autoImplicit true
set_option relaxedAutoImplicit true
set_option linter.all false
set_option maxRecDepth 100000
set_option maxHeartbeats 4000000
namespace Go.Sx
open Go Go.Proofs
inductive xF (i0:Int) (n:Nat) (e:Int):Prop where
 |mk (h1:0≤i0) (h2:i0+n≤9223372036854775807) (h3:e=i0+n-1) (h4:1≤n)
inductive NE (i0:Int) (n:Nat) (l:Int):Prop where
 |mk (h1:0≤i0) (h2:i0+1≤9223372036854775807) (h3:l=i0+1) (h4:1≤n)
def B0 (x:Int):Int:=x+1
def dK (x:Int×Nat):Int:=x.1+x.2-1
def oO (b:Nat) (h sb:Nat) (r:Nat→SV):C:=.raw true b 313 [.ifc 132 (.ptr h sb 0),.v (.pointer none),.v (.slice none 0 0),r 0,r 1,r 2,r 3,r 4,r 5,r 6,r 7,r 8]
def JY:cJ Pay where
 X:=Nat×(Nat→SV)×STO×Int×Int
 args:=fun(b,r,s,l,d)=>[.ptr 0 b 0]
 pre:=fun(b,r,s,l,d)=>[oO b 1 s.b r,s.raw 2,s.row]
 obl:=fun(b,r,s,l,d)=>xF s.i0 s.n l∧gT s.c2 d
 nf:=0
 res:=fun(b,r,s,l,d) _=>.i .u64 l
 ws:=fun(b,r,s,l,d) _=>[.fld 1 5 (.i .i64 d)]
theorem G0:JY.ok Tryz.prog 264:=by
 refine aJ ⟨false,false⟩ (fun _=>[fZ]) (fun _=>(.cons gJ .nil)) _ Tryz.func264 Tryz.ntmps264 rfl rfl ?_;intros;rename_i NF hNF _ _ _ _ _ _ _ _ AR hA CM hC _ _ _ _ _ _ _ hI _ _ x _ _ ho _ hP;obtain⟨b,r,⟨sb,hs,sn',nn,eb,off,cap,n,k0,k1,k2,k3,k4,k5,sp,t0,i0,f3,f4,es⟩,l,d2⟩:=x;obtain⟨⟨h1,h2,h3,h4⟩,⟨h6⟩⟩:=ho;change 0≤i0 at h1;change i0+(n:Int)≤9223372036854775807 at h2;change l=i0+(n:Int)-1 at h3;change 1≤n at h4;change d2=arStd .add .i64 k2 1 at h6;rw[←hA] at h6;have h4':(1:Int)≤(n:Int):=Int.ofNat_le.2 h4;have hF:∀x l,NF (x::l) 0=x:=by intro x l;rw[hNF];rfl
 have g2:CM .lt 0 (Int.ofNat n)=true:=by rw[hC];simp[cmStd];omega
 have uw:=u64w i0 (Int.ofNat n) h1 h2 h4';have a3:AR .conv .u64 (Int.ofNat n) 0=Int.ofNat n:=by rw[hA];exact uw.1
 obtain⟨e,he⟩:∃e,e=i0+(n:Int):=⟨_,rfl⟩;have a4:AR .add .u64 i0 (Int.ofNat n)=e:=by rw[hA,he];exact uw.2
 have a5:AR .sub .u64 e 1=l:=by rw[hA,h3,←he];simp only[arStd,IntKind.wrap_u64];omega
 cbv;repeat' first|exact O5|intro β;cbv|apply O4
 refine inl @hI Tryz.func309 Tryz.ntmps309 rfl rfl ?_;cbv;repeat' first|exact O5|intro β;cbv|apply O4
 refine inl @hI Tryz.func164 Tryz.ntmps164 rfl rfl ?_;cbv;repeat' first|exact O5|intro β;cbv|apply O4
 refine inl @hI Tryz.func160 Tryz.ntmps160 rfl rfl ?_;cbv;repeat' first|exact O5|intro β;cbv|apply O4
 rw[hF];cbv;repeat' first|exact O5|intro β;cbv|apply O4
 simp only[a3,a4,a5];rw[←h6];exact hP (fun _=>0) [(0,0),(1,0),(2,0)] _ _ rfl ⟨trivial,rfl,rfl,⟨⟨rfl,rfl,rfl,rfl⟩,⟨rfl,rfl,rfl,rfl⟩,rfl,trivial⟩⟩
def JX (g:Nat) (k:STO→Nat→SM Pay α):SM Pay α:=.rdC g fun c=>match c with
 |.raw _ b _ [hs,sn,.sl q (nn+1) eb off n cap,.i _ c0,.i _ c1,.i _ c2,.i _ c3,.i _ c4,.i _ c5]=>.rdC q fun c=>match c with
  |.prd (.sl sp _ _ _ _ (.sl _ _ _ (.st _ [.oi _ _ (some t0),.oi _ _ (some i0),f3,f4]::es)))=>k ⟨b,hs,sn,nn,eb,off,cap,n,c0,c1,c2,c3,c4,c5,sp,t0,i0,f3,f4,es⟩ q|_=>.fail
 |_=>.fail
def m264 (TX:TF) (args:List SV):SM Pay (JY.X×List Nat):=match args with
 |[.ptr h b _]=>.rdC h fun c=>match c with
  |.raw _ _ _ (.ifc _ (.ptr g _ _)::_::_::r)=>JX g fun s q=>.ret ((b,fun i=>r.getD i (.v undef),s,TX.ap dK (s.i0,s.n),TX.ap bQ s.c2),[h,g,q])|_=>.fail
 |_=>.fail
theorem uH:cI 264:=⟨_,Tryz.func264,rfl,by decide⟩
def vB (TX:TF):aN:=⟨264,0,true,JY.app (m264 TX),JY.app_ok G0 (m264 TX),fun h=>by cases h⟩
def H4:cJ Pay where
 X:=Nat×(Nat→SV)×STO×Int×Int
 args:=fun(b,r,s,l,d)=>[.ptr 0 b 0]
 pre:=fun(b,r,s,l,d)=>[oO b 1 s.b r,s.raw 2,s.row]
 obl:=fun(b,r,s,l,d)=>NE s.i0 s.n l∧gT s.c1 d
 nf:=0
 res:=fun(b,r,s,l,d) _=>.i .u64 l
 ws:=fun(b,r,s,l,d) _=>[.fld 1 4 (.i .i64 d)]
theorem HW:H4.ok Tryz.prog 325:=by
 refine aJ ⟨false,false⟩ (fun _=>[fZ]) (fun _=>(.cons gJ .nil)) _ Tryz.func325 Tryz.ntmps325 rfl rfl ?_;intros;rename_i NF hNF _ _ _ _ _ _ _ _ AR hA CM hC _ _ _ _ _ _ _ hI _ _ x _ _ ho _ hP;obtain⟨b,r,⟨sb,hs,sn',nn,eb,off,cap,n,k0,k1,k2,k3,k4,k5,sp,t0,i0,f3,f4,es⟩,l,d1⟩:=x;obtain⟨⟨h1,h2,h3,h4⟩,⟨h6⟩⟩:=ho;change 1≤n at h4;have g2:CM .lt 0 (Int.ofNat n)=true:=by rw[hC];simp[cmStd];omega
 change 0≤i0 at h1;change i0+1≤9223372036854775807 at h2;change l=i0+1 at h3;change d1=arStd .add .i64 k1 1 at h6;rw[←hA] at h6;have hF:∀x l,NF (x::l) 0=x:=by intro x l;rw[hNF];rfl
 have a5:AR .add .u64 i0 1=l:=by rw[hA,h3];simp only[arStd,IntKind.wrap_u64];omega
 cbv;repeat' first|exact O5|intro β;cbv|apply O4
 refine inl @hI Tryz.func359 Tryz.ntmps359 rfl rfl ?_;cbv;repeat' first|exact O5|intro β;cbv|apply O4
 refine inl @hI Tryz.func163 Tryz.ntmps163 rfl rfl ?_;cbv;repeat' first|exact O5|intro β;cbv|apply O4
 refine inl @hI Tryz.func128 Tryz.ntmps128 rfl rfl ?_;cbv;repeat' first|exact O5|intro β;cbv|apply O4
 rw[hF];cbv;repeat' first|exact O5|intro β;cbv|apply O4
 simp only[a5];rw[←h6];exact hP (fun _=>0) [(0,0),(1,0),(2,0)] _ _ rfl ⟨trivial,rfl,rfl,⟨⟨rfl,rfl,rfl,rfl⟩,⟨rfl,rfl,rfl,rfl⟩,rfl,trivial⟩⟩
def m325 (TX:TF) (args:List SV):SM Pay (H4.X×List Nat):=match args with
 |[.ptr h b _]=>.rdC h fun c=>match c with
  |.raw _ _ _ (.ifc _ (.ptr g _ _)::_::_::r)=>JX g fun s q=>.ret ((b,fun i=>r.getD i (.v undef),s,TX.ap B0 s.i0,TX.ap bQ s.c1),[h,g,q])|_=>.fail
 |_=>.fail
theorem NX:cI 325:=⟨_,Tryz.func325,rfl,by decide⟩
def OE (TX:TF):aN:=⟨325,0,true,H4.app (m325 TX),H4.app_ok HW (m325 TX),fun h=>by cases h⟩
structure LGF where
 off:Int
 co:Int
 ai:Int
 ad:Int
 mx:Int
 sz:Int
 pz:Bool
def LGF.r (g:LGF):Nat→SV
 |0=>.i .u64 g.off|1=>.bl false|2=>.i .u64 g.off|3=>.i .u64 g.co|4=>.i .u64 g.ai|5=>.i .u64 g.ad|6=>.i .u64 g.mx|7=>.i .u64 g.sz|_=>.bl g.pz
inductive OTrm (i0 t0:Int) (n:Nat) (f3 f4:FV) (es:List FV) (o i t:Int):Prop where
 |mk (h1:0≤i0) (h2:i0+n≤9223372036854775807) (h3:i<o) (h4:i0≤i) (h5:i<i0+n)
  (h6:∃a b c,nth (.st 212 [.oi 22 .u64 (some t0),.oi 22 .u64 (some i0),f3,f4]::es) (i-i0).toNat=.st 212 [.oi 22 .u64 (some t),a,b,c])
def BU (x:List FV×Int×Int):Int:=match nth x.1 (x.2.1-x.2.2).toNat with
 |.st _ (.oi _ _ (some t)::_)=>t|_=>0
def FN:cJ Pay where
 X:=(Nat×Int×(Nat→SV))×STO×Int×Int×Int×Int×Int
 args:=fun((b,o,r),s,i,t,d1,d2,d4)=>[.ptr 0 b 0,.i .u64 i]
 pre:=fun((b,o,r),s,i,t,d1,d2,d4)=>[oO b 1 s.b (fun k=>match k with|0=>.i .u64 o|k+1=>r k),s.raw 2,s.row]
 obl:=fun((b,o,r),s,i,t,d1,d2,d4)=>OTrm s.i0 s.t0 s.n s.f3 s.f4 s.es o i t∧gT s.c1 d1∧gT s.c2 d2∧gT s.c4 d4
 nf:=0
 res:=fun((b,o,r),s,i,t,d1,d2,d4) _=>.tup [.i .u64 t,.v .nilIface]
 ws:=fun((b,o,r),s,i,t,d1,d2,d4) _=>[.fld 1 4 (.i .i64 d1),.fld 1 5 (.i .i64 d2),.fld 1 7 (.i .i64 d4)]
theorem JK:FN.ok Tryz.prog 272:=by
 refine aJ ⟨false,false⟩ (fun TX=>[fZ,OG,OE TX,vB TX]) (fun _=>(.cons gJ (.cons NY (.cons NX (.cons uH .nil))))) _ Tryz.func272 Tryz.ntmps272 rfl rfl ?_;intros;rename_i NF hNF _ _ _ _ TX hTX _ _ AR hA CM hC _ _ _ _ _ _ _ hI _ _ x _ _ ho _ hP;obtain⟨⟨b,o,r⟩,⟨sb,hs,sn',nn,eb,off,cap,n,k0,k1,k2,k3,k4,k5,sp,t0,i0,f3,f4,es⟩,i,t,d1,d2,d4⟩:=x;obtain⟨⟨h1,h2,h3,h4,h5,h6⟩,⟨q1⟩,⟨q2⟩,⟨q4⟩⟩:=ho;change 0≤i0 at h1;change i0+(n:Int)≤9223372036854775807 at h2;change i<o at h3;change i0≤i at h4;change i<i0+(n:Int) at h5;change∃a b c,nth (.st 212 [.oi 22 .u64 (some t0),.oi 22 .u64 (some i0),f3,f4]::es) (i-i0).toNat=.st 212 [.oi 22 .u64 (some t),a,b,c] at h6;obtain⟨fa,fb,fc,h6⟩:=h6;change d1=arStd .add .i64 k1 1 at q1;change d2=arStd .add .i64 k2 1 at q2;change d4=arStd .add .i64 k4 1 at q4;obtain⟨tz,tl,tt,to,ap⟩:=TX;have hap:∀{α β:Type} (f:α→β) (x:α),ap f x=f x:=fun f x=>congrArg (fun t:TF=>t.ap f x) hTX;have p1:ap bQ k1=d1:=by rw[hap,q1];rfl
 have p2:ap bQ k2=d2:=by rw[hap,q2];rfl
 have p4:AR .add .i64 k4 1=d4:=by rw[q4,hA]
 have o1:gT k1 (ap bQ k1):=⟨by rw[hap];rfl⟩;have o2:gT k2 (ap bQ k2):=⟨by rw[hap];rfl⟩;have hn:1≤n:=by omega
 have o3:NE i0 n (ap B0 i0):=⟨h1,by omega,by rw[hap];rfl,hn⟩;have o4:xF i0 n (ap dK (i0,n)):=⟨h1,h2,by rw[hap];rfl,hn⟩;obtain⟨fi,hfi⟩:∃fi,ap B0 i0=fi:=⟨_,rfl⟩;obtain⟨la,hla⟩:∃la,ap dK (i0,n)=la:=⟨_,rfl⟩;have hfi2:fi=i0+1:=by rw[←hfi,hap];rfl
 have hla2:la=i0+(n:Int)-1:=by rw[←hla,hap];rfl
 have hF:∀x l,NF (x::l) 0=x:=by intro x l;rw[hNF];rfl
 obtain⟨i1,hi1⟩:∃i1,i1=i+1:=⟨_,rfl⟩;have a1:AR .add .u64 i 1=i1:=by rw[hA,hi1];simp only[arStd,IntKind.wrap_u64];omega
 obtain⟨m,hm⟩:∃m,m=(i-i0).toNat:=⟨_,rfl⟩;have a2:AR .sub .u64 i i0=Int.ofNat m:=by rw[hA,hm];simp only[arStd,IntKind.wrap_u64,Int.ofNat_eq_natCast];omega
 have a3:AR .conv .i64 (Int.ofNat m) 0=Int.ofNat m:=by rw[hA];show IntKind.i64.wrap _=_;rw[IntKind.wrap_i64];simp only[Int.ofNat_eq_natCast];omega
 rw[←hm] at h6;rw[←hNF] at h6;have w1:CM .lt i o=true:=by rw[hC];simpa [cmStd] using h3
 have w2:CM .lt i1 fi=false:=by rw[hC];simp[cmStd];omega
 have w3:CM .lt la i=false:=by rw[hC];simp[cmStd];omega
 have w4:CM .lt i i0=false:=by rw[hC];simp[cmStd];omega
 have w5:CM .le (Int.ofNat n) (Int.ofNat m)=false:=by rw[hC];simp[cmStd];omega
 have g1:CM .lt 0 (Int.ofNat n)=true:=by rw[hC];simp[cmStd];omega
 have g2:CM .le 0 (Int.ofNat m)=true:=by rw[hC];simp[cmStd]
 have g3:CM .lt (Int.ofNat m) (Int.ofNat n)=true:=by rw[hC];simp[cmStd];omega
 cbv;repeat' first|exact O5|intro β;cbv|apply O4
 refine inl @hI Tryz.func301 Tryz.ntmps301 rfl rfl ?_;cbv;repeat' first|exact O5|intro β;cbv|apply O4
 rw[w1];cbv;repeat' first|exact O5|intro β;cbv|apply O4
 rw[a1,hfi,w2];cbv;repeat' first|exact O5|intro β;cbv|apply O4
 rw[hla,w3];cbv;repeat' first|exact O5|intro β;cbv|apply O4
 refine inl @hI Tryz.func452 Tryz.ntmps452 rfl rfl ?_;cbv;repeat' first|exact O5|intro β;cbv|apply O4
 rw[hF];cbv;repeat' first|exact O5|intro β;cbv|apply O4
 rw[w4];cbv;repeat' first|exact O5|intro β;cbv|apply O4
 rw[a2,a3,w5];cbv;repeat' first|exact O5|intro β;cbv|apply O4
 all_goals simp only[a2]
 all_goals try assumption
 all_goals rw[h6]
 all_goals (cbv;repeat' first|exact O5|intro β;cbv|apply O4)
 simp only[p1,p2,p4];exact hP (fun _=>0) [(0,0),(1,0),(2,0)] _ _ rfl ⟨trivial,rfl,rfl,⟨⟨rfl,rfl,rfl,rfl⟩,⟨rfl,rfl,rfl,rfl⟩,rfl,trivial⟩⟩
def m272 (TX:TF) (args:List SV):SM Pay (FN.X×List Nat):=match args with
 |[.ptr h b _,i]=>match bG i with
  |some (_,_,i)=>.rdC h fun c=>match c with
   |.raw _ _ _ (.ifc _ (.ptr g _ _)::_::_:: .i _ o::r)=>JX g fun s q=>.ret (((b,o,fun k=>r.getD k (.v undef)),s,i,TX.ap BU (.st 212 [.oi 22 .u64 (some s.t0),.oi 22 .u64 (some s.i0),s.f3,s.f4]::s.es,i,s.i0),TX.ap bQ s.c1,TX.ap bQ s.c2,TX.ap bQ s.c4),[h,g,q])|_=>.fail
  |none=>.fail
 |_=>.fail
theorem x272:cI 272:=⟨_,Tryz.func272,rfl,by decide⟩
def r272 (TX:TF):aN:=⟨272,0,true,FN.app (m272 TX),FN.app_ok JK (m272 TX),fun h=>by cases h⟩
def c88:cJ Pay where
 X:=Nat×(Nat→SV)×Nat×List FV
 args:=fun(b,r,hb,fs)=>[.ptr 0 b 0,.ptr 1 hb 0]
 pre:=fun(b,r,hb,fs)=>[.raw true b 216 [r 0,r 1,r 2,r 3,r 4,r 5,r 6,r 7,r 8],.prd (.st hb 226 fs)]
 nf:=0
 res:=fun _ _=>.v .nilIface
 ws:=fun(b,r,hb,fs) _=>[.fld 0 0 (.ptr 1 hb 0)]
theorem OB:c88.ok Tryz.prog 88:=by
 refine aJ ⟨false,false⟩ (fun _=>[]) (fun _=>.nil) _ Tryz.func88 Tryz.ntmps88 rfl rfl ?_;intros;rename_i x _ _ _ _ hP;obtain⟨b,r,hb,fs⟩:=x;cbv;repeat' first|exact O5|intro β;cbv|apply O4
 exact hP (fun _=>0) [(0,0),(1,0)] _ _ rfl ⟨trivial,rfl,rfl,⟨⟨rfl,rfl,rfl,rfl⟩,rfl,trivial⟩⟩
def m88 (args:List SV):SM Pay (c88.X×List Nat):=match args with
 |[.ptr h b _,.ptr g hb _]=>.rdC h fun c=>.rdC g fun c2=>match c with
  |.raw _ _ _ l=>match c2 with
   |.prd (.st _ _ fs)=>.ret ((b,fun i=>l.getD i (.v undef),hb,fs),[h,g])|_=>.fail
  |_=>.fail
 |_=>.fail
theorem x88:cI 88:=⟨_,Tryz.func88,rfl,by decide⟩
def r88:aN:=⟨88,0,true,c88.app m88,c88.app_ok OB m88,fun h=>by cases h⟩
def snE:List FV:=[.bys 5 0 none,.st 221 [.st 229 (sP (0,[]) (0,[]) (0,[]) (0,[]) (some false)),.oi 22 .u64 (some 0),.oi 22 .u64 (some 0)]]
theorem s83 {K:SV→List C→Prop} (hKK:∀b sb rb:Nat,K (.ptr 0 b 0) [.raw true b 216 [.v (.pointer none),.ptr 1 sb 0,.hv 2 (.slice (some ⟨rb,0,none⟩) 1 1),.lit .i64 0,.lit .i64 0,.lit .i64 0,.lit .i64 0,.lit .i64 0,.lit .i64 0],
  .prd (.st sb 223 snE),.free]) (F:HProp):inS Tryz.prog F 83 [] [] K:=by
 refine aF ⟨false,false⟩ (fun _=>[]) (fun _=>.nil) Tryz.func83 Tryz.ntmps83 rfl rfl ?_;intros;rename_i hU hI hL _ _ hsat hP;cbv;repeat' first|exact O5|intro β;cbv|apply O4
 refine inl @hI Tryz.func126 Tryz.ntmps126 rfl rfl ?_;cbv;repeat' first|exact O5|intro β;cbv|apply O4
 repeat (first|(refine inl @hI Tryz.func166 Tryz.ntmps166 rfl rfl ?_;cbv;repeat' first|exact O5|intro β;cbv|apply O4)|(refine inl @hI Tryz.func120 Tryz.ntmps120 rfl rfl ?_;cbv;repeat' first|exact O5|intro β;cbv|apply O4)|(refine inl @hI Tryz.func125 Tryz.ntmps125 rfl rfl ?_;cbv;repeat' first|exact O5|intro β;cbv|apply O4)|(refine inl @hI Tryz.func217 Tryz.ntmps217 rfl rfl ?_;cbv;repeat' first|exact O5|intro β;cbv|apply O4)|(refine inl @hI Tryz.func121 Tryz.ntmps121 rfl rfl ?_;cbv;repeat' first|exact O5|intro β;cbv|apply O4)|(refine inl @hI Tryz.func122 Tryz.ntmps122 rfl rfl ?_;cbv;repeat' first|exact O5|intro β;cbv|apply O4))
 rename_i w15 w14 w13 w12 w11 w10 w9 w8 w7 w6 w5 w4 w3 w2 w1 w0;refine hP [(2,0),(4,1),(0,1)] _ _ _ _ ?_ rfl ?_ (hKK (w13 0) (w11 0) (w14 0))
 ·rfl
 ·cbv
  first|done|simp
theorem BA (T S:TypeId) (b rb h:Nat) (fs:List FV):eF [.raw true rb T [.ptr h b 0],.prd (.st b S fs)] (.prd (.sl false 1 rb 0 1 (.sl T 1 1 [.st S fs]))):=by
 refine⟨fun w F hs=>?_⟩;simp only[big,aO] at hs;have hs:sat w (star (star (star (hdr rb T 1) (aG true rb 0 [.pointer (some ⟨b,0,none⟩)])) (tX b S fs)) F):=hs;have h2:sat w (star (aG true rb 0 [.pointer (some ⟨b,0,none⟩)]) (star (hdr rb T 1) (star (tX b S fs) F))):=aI hs (by ac_rfl);have h3:=eT _ _ h2;show sat w (star (star (FV.row 1 rb 0 1 (.sl T 1 1 [.st S fs])) (eM false (bU 1 rb 0 1 1))) F);simp only[eM,aO,FV.row];rw[aL];refine⟨[.pointer (some ⟨b,0,none⟩)],?_⟩;simp only[aA];refine aB.2 ⟨rfl,?_⟩;have e1:slR T 1 [.pointer (some ⟨b,0,none⟩)] 1 rb 0 1=rowD T [.pointer (some ⟨b,0,none⟩)] rb 0 1:=rfl;rw[e1,rowD,aL];refine⟨1,?_⟩;simp only[aA];refine aB.2 ⟨⟨by simp,by simp⟩,?_⟩;have e2:FV.dens [.st S fs] [.pointer (some ⟨b,0,none⟩)]=star (FV.den (.st S fs) (.pointer (some ⟨b,0,none⟩))) emp:=rfl;rw[e2,aO];refine aI (A:=star ((FV.st S fs).den (.pointer (some ⟨b,0,none⟩))) (star (aG false rb 0 [.pointer (some ⟨b,0,none⟩)]) (star (hdr rb T 1) F))) ?_ (by simp only[dH];ac_rfl);have e3:FV.den (.st S fs) (.pointer (some ⟨b,0,none⟩))=exi fun b':Nat=>star (pure' ((Value.pointer (some ⟨b,0,none⟩))=.pointer (some ⟨b',0,none⟩))) (tX b' S fs):=by simp only[FV.den];rfl
 rw[e3,aL];refine⟨b,?_⟩;rw[aA];exact aB.2 ⟨rfl,aI h3 (by ac_rfl)⟩
theorem inS.out {P:Program} {F:HProp} {n:FuncId} {args:List SV} {heap:List C} {K K':SV→List C→Prop} (h:inS P F n args heap K)
  (hk:∀v hp,K v hp→∃hp',K' v hp'∧∀(w:World) (G:HProp),sat w (star (big hp) G)→sat w (star (big hp') G)):inS P F n args heap K':=
 ⟨h.1,fun w hs=>(h.2 w hs).mono fun e w' hR=>hR.imp id fun⟨v,hp,h1,h2,h3⟩=>let ⟨hp',k,f⟩:=hk v hp h1;⟨v,hp',k,h2,f w' _ h3⟩⟩
theorem cK {P:Program} {c:cJ Pay} {fid:FuncId} (h:∀(x:c.X) (F:HProp) (K:SV→List C→Prop),c.obl x→(∀β,pZ (c.fact x β)→K (c.res x β) (c.post x β))→inS P F fid (c.args x) (c.pre x) K):c.ok P fid:=by
 intro x F w ho hs;have h1:=(h x F (fun v hp=>∃β,pZ (c.fact x β)∧v=c.res x β∧hp=c.post x β) ho (fun β hf=>⟨β,hf,rfl,rfl⟩)).2 w hs;refine h1.mono fun e w' hR=>?_;rcases hR with h2|⟨v,hp,⟨β,hf,rfl,rfl⟩,h3,h4⟩
 ·exact .inl h2
 ·exact .inr ⟨β,hf,h3,h4⟩
theorem s84 {b ob nb:Nat} {r:Nat→SV} {m:Nat} {d:Option (List UInt8)} {cs:CSX} {i t:Int} {K:SV→List C→Prop} {a':Bool} (hcs:cs.ok) (ha:cs.a=some a') (hm:m≤4294967296)
  (hKK:∀cb rb eb:Nat,K (.v .nilIface) [.raw true b 216 [r 0,.ptr 3 cb 0,.hv 4 (.slice (some ⟨rb,0,none⟩) 1 1),r 3,r 4,r 5,r 6,r 7,r 8],.prd (.st ob 223 snE),.prd (.st nb 223 [.bys 5 m d,.st 221 (L3 cs i t)]),
   .prd (.st cb 223 [.bys 5 m d,.st 221 (L3 cs i t)]),.raw true rb 209 [.ptr 5 eb 0],.prd (.st eb 212 [.oi 22 .u64 (some t),.oi 22 .u64 (some i),.oi 306 .i32 none,.bys 5 0 none])]) (F:HProp):
  inS Tryz.prog F 84 [.ptr 0 b 0,.ptr 2 nb 0] [.raw true b 216 [r 0,.ptr 1 ob 0,r 2,r 3,r 4,r 5,r 6,r 7,r 8],.prd (.st ob 223 snE),.prd (.st nb 223 [.bys 5 m d,.st 221 (L3 cs i t)])] K:=by
 obtain⟨⟨v,vl⟩,⟨l,ll⟩,⟨o,ol⟩,⟨x,xl⟩,a⟩:=cs;change a=some a' at ha;subst ha;obtain⟨h1,h2,h3,h4⟩:=hcs;change v≤4294967296 at h1;change l≤4294967296 at h2;change o≤4294967296 at h3;change x≤4294967296 at h4;refine aF ⟨false,false⟩ (fun _=>[r127,r120,r121,r122]) (fun _=>(.cons x127 (.cons x120 (.cons x121 (.cons x122 .nil))))) Tryz.func84 Tryz.ntmps84 rfl rfl ?_;intros;rename_i CM hC _ _ _ _ _ _ hU hI hL _ _ hsat hP;cbv;repeat' first|exact O5|intro β;cbv|apply O4
 refine inl @hI Tryz.func126 Tryz.ntmps126 rfl rfl ?_;cbv;repeat' first|exact O5|intro β;cbv|apply O4
 repeat (first|(refine inl @hI Tryz.func166 Tryz.ntmps166 rfl rfl ?_;cbv;repeat' first|exact O5|intro β;cbv|apply O4)|(refine inl @hI Tryz.func125 Tryz.ntmps125 rfl rfl ?_;cbv;repeat' first|exact O5|intro β;cbv|apply O4)|(refine inl @hI Tryz.func217 Tryz.ntmps217 rfl rfl ?_;cbv;repeat' first|exact O5|intro β;cbv|apply O4))
 have c0:CM .ne 0 0=false:=by rw[hC];rfl
 rw[c0];cbv;repeat' first|exact O5|intro β;cbv|apply O4
 rename_i w6 w5 w4 w3 w2 w1;rename Nat→Nat=>w0;refine hP [(0,0),(1,0),(2,0),(13,0),(19,0),(18,1)] _ _ _ _ ?_ rfl ?_ (hKK (w6 0) (w0 0) (w1 0))
 ·rfl
 ·cbv
  first|done|simp
theorem inS.outS {P:Program} {F:HProp} {n:FuncId} {args:List SV} {heap:List C} {K K':SV→List C→Prop} (h:inS P F n args heap K)
  (hk:∀v hp,K v hp→∀(w:World) (G:HProp),sat w (star (big hp) G)→∃hp',K' v hp'∧sat w (star (big hp') G)):inS P F n args heap K':=
 ⟨h.1,fun w hs=>(h.2 w hs).mono fun e w' hR=>hR.imp id fun⟨v,hp,h1,h2,h3⟩=>let ⟨hp',k,f⟩:=hk v hp h1 w' _ h3;⟨v,hp',k,h2,f⟩⟩
theorem hD {w:World} {G:HProp} {hp:List C} (p:Nat) {sp:Bool} {nn b off cap T n:Nat} {l:List FV} (hc:hp.getD p .nil=.prd (.sl sp nn b off cap (.sl T 1 n l))) (hn:1≤n) (hs:sat w (star (big hp) G)):∃k,nn=k+1:=by have hs2:sat w (star (FV.row nn b off cap (.sl T 1 n l)) _):=bY hc hs;have:=dG (f:=.sl T 1 n l) rfl hn (by show 0<1;omega) hs2;exact⟨nn-1,by omega⟩
def GQ (s:STO):FV:=.st 212 [.oi 22 .u64 (some s.t0),.oi 22 .u64 (some s.i0),s.f3,s.f4]
theorem s86 {s:STO} {sp':Bool} {nn' eb' off' cap' m:Nat} {pl:List FV} {a1 a3 a4:FV} {K:SV→List C→Prop}
  (hm2:m≤100000) (hn:1≤s.n) (hn2:s.n≤100000) (h0:0≤s.i0) (h1:s.i0≤1099511627776) (hsp:match s.sp with|true=>True|false=>Nat.ble s.cap s.n=true) (hp:m=0∧pl=[]∨1≤m∧nth pl 0=.st 212 [a1,.oi 22 .u64 (some (s.i0+s.n)),a3,a4])
  (hKK:∀(sp2:Bool) (nn2 eb2 off2 cap2:Nat),(match sp2 with|true=>True|false=>Nat.ble cap2 (s.n+m)=true)→K (.v .nilIface) [STO.raw {s with nn:=nn2,eb:=eb2,off:=off2,cap:=cap2,n:=s.n+m} 1,.prd (.sl sp2 (nn2+1) eb2 off2 cap2 (.sl 209 1 (s.n+m) (GQ s::(s.es++pl)))),.prd (.sl sp' nn' eb' off' cap' (.sl 209 1 m pl))]) (F:HProp):
  inS Tryz.prog F 86 [.ptr 0 s.b 0,.sl 2 nn' eb' off' m cap'] [s.raw 1,s.row,.prd (.sl sp' nn' eb' off' cap' (.sl 209 1 m pl))] K:=by
 obtain⟨b,hs,sn',nn,eb,off,cap,n,k0,k1,k2,k3,k4,k5,sp,t0,i0,f3,f4,es⟩:=s;change 1≤n at hn;change n≤100000 at hn2;change 0≤i0 at h0;change i0≤1099511627776 at h1;rcases hp with ⟨hp0,hp⟩|⟨hm,hp⟩
 ·subst hp0;subst hp;have hk:=hKK sp nn eb off cap hsp;clear hKK;rw[List.append_nil] at hk;change K (.v .nilIface) [.raw true b 216 [hs,sn',.sl 1 (nn+1) eb off n cap,.i .i64 k0,.i .i64 k1,.i .i64 k2,.i .i64 k3,.i .i64 k4,.i .i64 k5],.prd (.sl sp (nn+1) eb off cap (.sl 209 1 n (.st 212 [.oi 22 .u64 (some t0),.oi 22 .u64 (some i0),f3,f4]::es))),.prd (.sl sp' nn' eb' off' cap' (.sl 209 1 0 []))] at hk;refine aF ⟨false,false⟩ (fun _=>[fZ]) (fun _=>(.cons gJ .nil)) Tryz.func86 Tryz.ntmps86 rfl rfl ?_;intros;rename_i mem hmem ins hins kq hkq adq hadq sti hsti rep hrep tk htk bi hbi op hop sn hsn ln hln df hdf di hdi ji hji jf hjf ns hns NI hNI NF hNF SE hE mu hmu TX hTX na hna AR hA CM hC CK hK PV hV ST IN hU hI hL Post hN hsat hP;have c0:CM .eq (Int.ofNat 0) 0=true:=O6;cbv;repeat' first|exact O5|intro β;cbv|apply O4
  repeat (any_goals (simp only[c0];try (cbv;repeat' first|exact O5|intro β;cbv|apply O4)))
  refine hP [(0,0),(1,0),(2,0)] _ _ _ _ ?_ rfl ?_ hk
  ·rfl
  ·exact⟨⟨rfl,rfl,rfl,rfl⟩,rfl,rfl,trivial⟩
 refine inS.outS (K:=fun v hp=>∃nn2 eb2 off2 cap2:Nat,v=.v .nilIface∧hp=[.raw true b 216 [hs,sn',.sl 1 nn2 eb2 off2 (n+m) cap2,.i .i64 k0,.i .i64 k1,.i .i64 k2,.i .i64 k3,.i .i64 k4,.i .i64 k5],.prd (.sl true nn2 eb2 off2 cap2 (.sl 209 1 (n+m) (.st 212 [.oi 22 .u64 (some t0),.oi 22 .u64 (some i0),f3,f4]::(es++pl)))),.prd (.sl sp' nn' eb' off' cap' (.sl 209 1 m pl))]) ?_ ?_;rotate_left
 ·rintro v hp ⟨nn2,eb2,off2,cap2,rfl,rfl⟩ w G hs;obtain⟨k,rfl⟩:=hD 1 rfl (by omega) hs;exact⟨_,hKK true k eb2 off2 cap2 trivial,hs⟩
 cases nn' with
 |zero=>refine⟨⟨_,rfl,by decide+kernel,by decide⟩,fun w hs=>?_⟩;obtain⟨k,hk⟩:=hD 2 rfl (by omega) hs;omega
 |succ nn'=>
 change nth pl 0=.st 212 [a1,.oi 22 .u64 (some (i0+(n:Int))),a3,a4] at hp;clear hKK;refine aF ⟨false,false⟩ (fun _=>[fZ]) (fun _=>(.cons gJ .nil)) Tryz.func86 Tryz.ntmps86 rfl rfl ?_;intros;rename_i jf hjf _ _ _ _ NF hNF _ _ _ _ _ _ na hna AR _ CM hC _ _ _ _ _ _ _ hI _ _ _ _ hP;obtain⟨j,hj⟩:∃j:Int,j=i0+(n:Int):=⟨_,rfl⟩;replace hj:j=i0+(n:Int):=hj;rw[←hj,←hNF] at hp;have hF:∀x l,NF (x::l) 0=x:=by intro x l;rw[hNF];rfl
 obtain⟨jm,hjm⟩:∃jm:Int,jm=j+(m:Int):=⟨_,rfl⟩;replace hjm:jm=j+(m:Int):=hjm;obtain⟨jl,hjl⟩:∃jl:Int,jl=jm-1:=⟨_,rfl⟩;replace hjl:jl=jm-1:=hjl;obtain⟨i1,hi1⟩:∃i1:Int,i1=i0+1:=⟨_,rfl⟩;replace hi1:i1=i0+1:=hi1;have c0:CM .eq (Int.ofNat m) 0=false:=O6;have g1:CM .le 0 0=true:=O6;have g2:CM .lt 0 (Int.ofNat n)=true:=O6;have g3:CM .lt 0 (Int.ofNat m)=true:=O6;have x1:AR .conv .u64 (Int.ofNat m) 0=Int.ofNat m:=O7;have x2:AR .add .u64 j (Int.ofNat m)=jm:=O7;have x3:AR .sub .u64 jm 1=jl:=O7;have x4:AR .add .u64 i0 1=i1:=O7;have y1:CM .lt jl i1=false:=O6;have y2:CM .lt j i1=false:=O6;have x5:AR .sub .u64 j i0=Int.ofNat n:=O7;have x6:AR .conv .u64 (Int.ofNat n) 0=Int.ofNat n:=O7;have y3:CM .lt (Int.ofNat n) (Int.ofNat n)=false:=O6;have y4:CM .eq (Int.ofNat n) (Int.ofNat n)=true:=O6;have y5:CM .le (Int.ofNat (na n m)) 4294967296=true:=by rw[hC,hna];simp only[cmStd,decide_eq_true_eq,Int.ofNat_eq_natCast];omega
 cbv;repeat' first|exact O5|intro β;cbv|apply O4
 repeat (any_goals (simp only[c0];try (cbv;repeat' first|exact O5|intro β;cbv|apply O4)))
 refine inl @hI Tryz.func128 Tryz.ntmps128 rfl rfl ?_;cbv;repeat' first|exact O5|intro β;cbv|apply O4
 repeat (any_goals (simp only[hF,hp,x1,x2,x3,x4,x5,x6,y1,y2,y3,y4];try (cbv;repeat' first|exact O5|intro β;cbv|apply O4)))
 have e1:na n m=n+m:=by rw[hna]
 have e2:∀x,jf (x::es) pl=x::(es++pl):=by intro x;rw[hjf];rfl
 refine hP [(0,0),(13,0),(2,0)] _ _ _ _ ?_ rfl ?_ ⟨β 0,β 1,β 2,β 3,rfl,rfl⟩
 ·rfl
 ·rw[←e1,←e2];exact⟨⟨rfl,rfl,rfl,rfl⟩,rfl,rfl,trivial⟩
theorem shr7 (m:Int) (h:0≤m):m/128=m.fdiv 128:=by rw[Int.fdiv_eq_ediv_of_nonneg _ (by omega)]
def iOf (v:Value):Int:=match v with
 |.int _ n=>n|_=>0
def vb (k:Nat):Int:=2^(64-7*(k-1))
theorem HD (k:Nat) (m:Int) (h1:1≤k) (h2:k≤10) (h0:128≤m) (h:m<vb k):k+1≤10∧m.fdiv 128<vb (k+1)∧0≤m.fdiv 128:=by
 rw[←shr7 m (by omega)];unfold vb at*;have:k=1∨k=2∨k=3∨k=4∨k=5∨k=6∨k=7∨k=8∨k=9∨k=10:=by omega
 rcases this with rfl|rfl|rfl|rfl|rfl|rfl|rfl|rfl|rfl|rfl<;>simp at h⊢<;>omega
theorem wH (n:Int) (h0:0≤n) (h1:n<18446744073709551616) (w:World):
  Calls Tryz.prog 303 #[.int .u64 n] w fun e w'=>∃k:Nat,1≤k∧k≤10∧e=.returned (.int .i64 (Int.ofNat k))∧w'=w:=by
 go_enter Tryz.func303,Tryz.ntmps303
 go_wp2
 go_loop [0,3] (fun a s=>∃(m:Int) (k:Nat),1≤k∧k≤10∧0≤m∧m<vb k∧a=.int .u64 m∧s=.int .i64 (Int.ofNat k)) (fun a _=>(iOf a).toNat)
 case atStart=>exact⟨n,1,by omega,by omega,h0,by unfold vb;simpa using h1,rfl,rfl⟩
 case round=>
  obtain⟨m,k,hk1,hk2,hm0,hm1,rfl,rfl⟩:=hrel
  by_cases hlt:128≤m
  ·have hv:=HD k m hk1 hk2 hlt hm1;have hd:=shr7 m hm0
   go_wp2
   all_goals
    go_round
    case rel=>exact⟨m.fdiv 128,k+1,by omega,hv.1,hv.2.2,hv.2.1,by first|rfl|(congr 1;done)|(simp;done),by first|rfl|go_num⟩
    case measure=>simp[iOf];omega
  ·go_wp2
   go_ret
   exact⟨k,hk1,hk2,rfl,rfl⟩
end Go.Sx
