import Derived.Test.YtjikgjdicpggkaaGreatX17
import Derived.Test.YtjikgjdicpggkaaGreatY66
set_option autoImplicit true
set_option relaxedAutoImplicit true
set_option linter.all false
set_option maxRecDepth 100000
set_option maxHeartbeats 4000000
namespace Go.Sx
open Go Go.Proofs
def rfM (x:RF) (trk:List SV) (lf:Bool) (ms ma:SV) (zz:SV):C:=.raw true x.b 264 ([.i .u64 x.id,.i .u64 x.term,.i .u64 x.vote,.v (.slice none 0 0),.ptr 4 x.lb 0,.i .u64 x.ms,.i .u64 18446744073709551615]++trk++
 [.hv 5 (.map (some x.wb)),.i .i64 x.mi,.i .u64 18446744073709551615,.i .u64 0,.bl lf,ms,ma,.i .u64 x.lead,.i .u64 0,.i .u64 0,.bl false,.i .u64 0,.ptr 6 x.ob 0,.i .i64 0,.i .i64 0,.bl x.cq,.bl x.pv,.i .i64 x.ht,.i .i64 x.et,.i .i64 x.rt,.bl x.nf,.bl x.sd,yS x.b,nZ,.v (.slice none 0 0),zz,.i .i64 x.nx])
def fI (x:RF) (o:LL) (lf:Bool) (ms ma:SV) (V:List Int) (P:MQ) (g:LGF) (ro:Int) (ab:Nat) (z:ZF) (s:STO):List C:=
 [rfM x (rV x o) lf ms ma (.sl 7 z.n z.b z.o z.l z.c),.prd (.mp x.vb (.set V) none),.prd (.mp x.pb (.ptrs 410 P) none),BT o,oO x.lb 8 s.b g.r,.prd (.h (dL x.wb)),
  .raw true x.ob 398 [.i .i64 ro,.hv 10 (.map (some ab)),.v (.slice none 0 0),.i .u64 0],.prd (.sl z.sp z.n z.b z.o z.c (.ul 3 .i64 z.l z.Z)),s.raw 9,s.row,.prd (.h (dL ab))]
def vrF (to fr tm:Int) (rj:Option Bool):FV:=.st 269 [.oi 266 .i32 (some 6),.oi 22 .u64 (some to),.oi 22 .u64 (some fr),.oi 22 .u64 (some tm),.oi 22 .u64 none,.oi 22 .u64 none,.sl 209 1 0 [],.oi 22 .u64 none,.oi 22 .u64 none,.np,.ob 4 rj,.oi 22 .u64 none,.bys 5 0 none,.sl 176 1 0 []]
def rvF (to fr tm:Int) (oL oIzq:Option Int):List FV:=[.oi 266 .i32 (some 5),.oi 22 .u64 (some to),.oi 22 .u64 (some fr),.oi 22 .u64 (some tm),.oi 22 .u64 oL,.oi 22 .u64 oIzq,.sl 209 1 0 [],.oi 22 .u64 none,.oi 22 .u64 none,.np,.ob 4 none,.oi 22 .u64 none,.bys 5 0 none,.sl 176 1 0 []]
theorem s139v {x:RF} {lf:Bool} {o:LL} {V L:List Int} {P':MQ} {s:STO} {g:LGF} {h1 h2:Value} {z:ZF} {ro:Int} {to fr tm lt ix tl la:Int} {oL oIzq:Option Int} {ab mb:Nat} {K:SV→List C→Prop} (hT:TrkOK V L P') (hVL:V.length+L.length≤13)
  (hs0:0≤s.i0) (hs1:s.i0≤1099511627776) (hsn1:1≤s.n) (hsn2:s.n≤100000) (hgo:g.off=s.i0+s.n) (htm:1≤tm) (hfr:1≤fr) (hoL:lB 0 oL=lt) (hoI:lB 0 oIzq=ix)
  (hla:la=s.i0+s.n-1) (hlast:∃a b c,nth (GQ s::s.es) (s.n-1)=.st 212 [.oi 22 .u64 (some tl),a,b,c]) (ht:tm=x.term) (hld:x.lead=0)
  (hKK:∀(gr:Bool) (d2 d4 d1:Int) (rb off cap:Nat) (nn:Nat),gr=((x.vote==fr||x.vote==0)&&(decide (tl<lt)||(lt==tl&&decide (la≤ix))))→
   K (.v .nilIface) (fI {x with vote:=if gr then fr else x.vote} o lf (.v (.slice none 0 0)) (.sl 11 nn rb off 1 cap) V P' g ro ab z {s with hs:=.v h1,sn:=.v h2,c1:=d1,c2:=d2,c4:=d4}++[.prd (.sl true nn rb off cap (.sl 176 1 1 [vrF fr x.id tm (if gr then none else some true)]))])) (F:HProp):
  inS Tryz.prog F 139 [.ptr 0 x.b 0,.ptr 11 mb 0]
   (yT x o lf V P' g ro ab z {s with hs:=.v h1,sn:=.v h2}++[.prd (.st mb 269 (rvF to fr tm oL oIzq))]) K:=by
 obtain⟨b,id,term,vote,lb,ms,vb,pb,wb,mi,lead,cq,pv,hT',et,rt,nf,sd,ob,nx⟩:=x;obtain⟨g1,g2,g3,g4,g5,g6,g7⟩:=g;obtain⟨sb,hs,sn',nn,eb,off,cap,n,k0,k1,k2,k3,k4,k5,sp,t0,i0,f3,f4,es⟩:=s;obtain⟨zp,zn,zb,zo,zl,zc,Z⟩:=z;change 0≤i0 at hs0;change i0≤1099511627776 at hs1;change 1≤n at hsn1;change n≤100000 at hsn2;change tm=term at ht;change g1=i0+(n:Int) at hgo;obtain⟨fa,fb,fc,hlast⟩:=hlast;change la=i0+(n:Int)-1 at hla;change nth (.st 212 [.oi 22 .u64 (some t0),.oi 22 .u64 (some i0),f3,f4]::es) (n-1)=.st 212 [.oi 22 .u64 (some tl),fa,fb,fc] at hlast;subst ht;change lead=0 at hld;subst hld;refine aF ⟨false,false⟩ (fun TX=>[vB TX,r272 TX,wS,AO,zK,C0,r179,r184,nH,r191,qW]) (fun _=>(.cons uH (.cons x272 (.cons xI (.cons zX (.cons AI (.cons EM (.cons x179 (.cons x184 (.cons nU (.cons x191 (.cons qX .nil)))))))))))) Tryz.func139 Tryz.ntmps139 rfl rfl ?_;intros;rename_i jf hjf _ _ _ _ _ _ _ _ _ _ TX hTX na hna _ _ CM hC _ _ _ _ _ _ hU hI hL _ _ hsat hP;obtain⟨tz,tls,tt,to0,apx⟩:=TX;have hap:∀{α β:Type} (f:α→β) (x:α),apx f x=f x:=fun f x=>congrArg (fun t:TF=>t.ap f x) hTX;have p0:∀k,gT k (apx bQ k):=fun k=>⟨by rw[hap];rfl⟩;have e1:apx dK (i0,n)=i0+n-1:=by rw[hap];rfl
 have o2:xF i0 n (apx dK (i0,n)):=⟨hs0,by omega,by rw[hap];rfl,hsn1⟩;have hd:apx BU (.st 212 [.oi 22 .u64 (some t0),.oi 22 .u64 (some i0),f3,f4]::es,apx dK (i0,n),i0)=tl:=by
  have e3:(apx dK (i0,n)-i0).toNat=n-1:=by rw[e1];omega
  rw[hap];simp only[BU,e3,hlast]
 have o3:OTrm i0 t0 n f3 f4 es g1 (apx dK (i0,n)) (apx BU (.st 212 [.oi 22 .u64 (some t0),.oi 22 .u64 (some i0),f3,f4]::es,apx dK (i0,n),i0)):=by
  have e3:(apx dK (i0,n)-i0).toNat=n-1:=by rw[e1];omega
  refine⟨hs0,by omega,by rw[e1];omega,by rw[e1];omega,by rw[e1];omega,fa,fb,fc,?_⟩;rw[e3,hlast,hd]
 have c1:CM .eq tm 0=false:=O6;have c2:CM .lt tm tm=false:=O6;have c3:CM .eq 5 5=true:=O6;have c4:CM .eq 5 0=false:=O6;have c5:CM .eq 5 20=false:=O6;have c6:CM .eq 5 22=false:=O6;have c7:CM .eq 0 0=true:=O6;have c8:CM .eq 5 17=false:=O6;have v65:CM .eq 6 5=false:=O6;have v66:CM .eq 6 6=true:=O6;have v64:CM .eq 6 4=false:=O6;have yna:CM .le (Int.ofNat (na 0 1)) 4294967296=true:=by rw[hC,hna];rfl
 have ena:na 0 1=1:=by rw[hna]
 have ejf:∀l,jf [] l=l:=by intro l;rw[hjf];rfl
 have o191:O191 5:=⟨rfl⟩;have hl:apx dK (i0,n)=la:=by rw[e1,hla]
 have hd2:apx BU (.st 212 [.oi 22 .u64 (some t0),.oi 22 .u64 (some i0),f3,f4]::es,la,i0)=tl:=by rw[←hl];exact hd
 unfold lB at hoL hoI;cbv;repeat' first|exact O5|intro β;cbv|apply O4|apply p0;done|apply yna;done
 repeat (any_goals (simp only[c1,c2,c3,c4,c5,c6,hoL,hoI];try (cbv;repeat' first|exact O5|intro β;cbv|apply O4|apply p0;done|apply yna;done)))
 rcases hq1:CM .eq vote fr with _|_
 ·have q1:(vote==fr)=false:=by rw[hC] at hq1;exact hq1
  rcases hq2:CM .eq vote 0 with _|_
  ·have q2:(vote==0)=false:=by rw[hC] at hq2;exact hq2
   repeat (any_goals (simp only[hq1,hq2,c7,c8,hoL,hoI];try (cbv;repeat' first|exact O5|intro β;cbv|apply O4|apply p0;done|apply yna;done)))
   refine inl @hI Tryz.func178 Tryz.ntmps178 rfl rfl ?_;cbv;repeat' first|exact O5|intro β;cbv|apply O4|apply p0;done|apply yna;done
   repeat (any_goals (simp only[c7,c1,v65,v66,v64];try (cbv;repeat' first|exact O5|intro β;cbv|apply O4|apply p0;done|apply yna;done)))
   rename_i bw;simp only[ena,ejf];have hq:false=((vote==fr||vote==0)&&(decide (tl<lt)||(lt==tl&&decide (la≤ix)))):=by first|(rw[q1,q2];done)|(rw[q1,q2];rfl)|(rw[q1,q3];rfl)|(rw[q1,q3,q4];rfl)|(rw[q1,q3,q4,q5];rfl)|(rw[q1,q2,q3];rfl)|(rw[q1,q2,q3,q4];rfl)|(rw[q1,q2,q3,q4,q5];rfl)
   have hk:=hKK false k2 k4 k1 (bw 1) (bw 2) (bw 3) (bw 0) hq
   (refine hP [(0,0),(1,0),(2,0),(3,0),(4,0),(5,0),(6,0),(7,0),(8,0),(9,0),(10,0),(22,0)] _ _ _ _ ?_ rfl ?_ hk<;>(first|(rfl;done)|(refine⟨⟨rfl,rfl,rfl,?_⟩,rfl,rfl,aT _,⟨rfl,rfl,rfl,?_⟩,rfl,⟨rfl,rfl,rfl,rfl⟩,rfl,⟨rfl,rfl,rfl,?_⟩,rfl,rfl,?_,trivial⟩<;>rfl)))
  ·have q2:(vote==0)=true:=by rw[hC] at hq2;exact hq2
   repeat (any_goals (simp only[hq1,hq2,c7,c8,hoL,hoI];try (cbv;repeat' first|exact O5|intro β;cbv|apply O4|apply p0;done|apply yna;done)))
   refine inl @hI Tryz.func190 Tryz.ntmps190 rfl rfl ?_;cbv;repeat' first|exact O5|intro β;cbv|apply O4|apply p0;done|apply yna;done
   refine inl @hI Tryz.func223 Tryz.ntmps223 rfl rfl ?_;cbv;repeat' first|exact O5|intro β;cbv|apply O4|apply p0;done|apply yna;done
   repeat (any_goals (simp only[hl,hd2];try (cbv;repeat' first|exact O5|intro β;cbv|apply O4|apply p0;done|apply yna;done)))
   rcases hq3:CM .lt tl lt with _|_
   ·have q3:decide (tl<lt)=false:=by rw[hC] at hq3;exact hq3
    rcases hq4:CM .eq lt tl with _|_
    ·have q4:(lt==tl)=false:=by rw[hC] at hq4;exact hq4
     repeat (any_goals (simp only[hq3,hq4];try (cbv;repeat' first|exact O5|intro β;cbv|apply O4|apply p0;done|apply yna;done)))
     refine inl @hI Tryz.func178 Tryz.ntmps178 rfl rfl ?_;cbv;repeat' first|exact O5|intro β;cbv|apply O4|apply p0;done|apply yna;done
     repeat (any_goals (simp only[c7,c1,v65,v66,v64];try (cbv;repeat' first|exact O5|intro β;cbv|apply O4|apply p0;done|apply yna;done)))
     rename_i bw;simp only[ena,ejf];have hq:false=((vote==fr||vote==0)&&(decide (tl<lt)||(lt==tl&&decide (la≤ix)))):=by first|(rw[q1,q2];done)|(rw[q1,q2];rfl)|(rw[q1,q3];rfl)|(rw[q1,q3,q4];rfl)|(rw[q1,q3,q4,q5];rfl)|(rw[q1,q2,q3];rfl)|(rw[q1,q2,q3,q4];rfl)|(rw[q1,q2,q3,q4,q5];rfl)
     have hk:=hKK false (apx bQ (apx bQ k2)) (apx bQ k4) (apx bQ k1) (bw 1) (bw 2) (bw 3) (bw 0) hq
     (refine hP [(0,0),(1,0),(2,0),(3,0),(4,0),(5,0),(6,0),(7,0),(8,0),(9,0),(10,0),(25,0)] _ _ _ _ ?_ rfl ?_ hk<;>(first|(rfl;done)|(refine⟨⟨rfl,rfl,rfl,?_⟩,rfl,rfl,aT _,⟨rfl,rfl,rfl,?_⟩,rfl,⟨rfl,rfl,rfl,rfl⟩,rfl,⟨rfl,rfl,rfl,?_⟩,rfl,rfl,?_,trivial⟩<;>rfl)))
    ·have q4:(lt==tl)=true:=by rw[hC] at hq4;exact hq4
     rcases hq5:CM .le la ix with _|_
     ·have q5:decide (la≤ix)=false:=by rw[hC] at hq5;exact hq5
      repeat (any_goals (simp only[hq3,hq4,hq5];try (cbv;repeat' first|exact O5|intro β;cbv|apply O4|apply p0;done|apply yna;done)))
      refine inl @hI Tryz.func178 Tryz.ntmps178 rfl rfl ?_;cbv;repeat' first|exact O5|intro β;cbv|apply O4|apply p0;done|apply yna;done
      repeat (any_goals (simp only[c7,c1,v65,v66,v64];try (cbv;repeat' first|exact O5|intro β;cbv|apply O4|apply p0;done|apply yna;done)))
      rename_i bw;simp only[ena,ejf];have hq:false=((vote==fr||vote==0)&&(decide (tl<lt)||(lt==tl&&decide (la≤ix)))):=by first|(rw[q1,q2];done)|(rw[q1,q2];rfl)|(rw[q1,q3];rfl)|(rw[q1,q3,q4];rfl)|(rw[q1,q3,q4,q5];rfl)|(rw[q1,q2,q3];rfl)|(rw[q1,q2,q3,q4];rfl)|(rw[q1,q2,q3,q4,q5];rfl)
      have hk:=hKK false (apx bQ (apx bQ k2)) (apx bQ k4) (apx bQ k1) (bw 1) (bw 2) (bw 3) (bw 0) hq
      (refine hP [(0,0),(1,0),(2,0),(3,0),(4,0),(5,0),(6,0),(7,0),(8,0),(9,0),(10,0),(25,0)] _ _ _ _ ?_ rfl ?_ hk<;>(first|(rfl;done)|(refine⟨⟨rfl,rfl,rfl,?_⟩,rfl,rfl,aT _,⟨rfl,rfl,rfl,?_⟩,rfl,⟨rfl,rfl,rfl,rfl⟩,rfl,⟨rfl,rfl,rfl,?_⟩,rfl,rfl,?_,trivial⟩<;>rfl)))
     ·have q5:decide (la≤ix)=true:=by rw[hC] at hq5;exact hq5
      repeat (any_goals (simp only[hq3,hq4,hq5];try (cbv;repeat' first|exact O5|intro β;cbv|apply O4|apply p0;done|apply yna;done)))
      refine inl @hI Tryz.func178 Tryz.ntmps178 rfl rfl ?_;cbv;repeat' first|exact O5|intro β;cbv|apply O4|apply p0;done|apply yna;done
      repeat (any_goals (simp only[c7,c1,v65,v66,v64,c3];try (cbv;repeat' first|exact O5|intro β;cbv|apply O4|apply p0;done|apply yna;done)))
      rename_i bw;simp only[ena,ejf];have hq:true=((vote==fr||vote==0)&&(decide (tl<lt)||(lt==tl&&decide (la≤ix)))):=by first|(rw[q1,q2];done)|(rw[q1,q2];rfl)|(rw[q1,q3];rfl)|(rw[q1,q3,q4];rfl)|(rw[q1,q3,q4,q5];rfl)|(rw[q1,q2,q3];rfl)|(rw[q1,q2,q3,q4];rfl)|(rw[q1,q2,q3,q4,q5];rfl)
      have hk:=hKK true (apx bQ (apx bQ k2)) (apx bQ k4) (apx bQ k1) (bw 1) (bw 2) (bw 3) (bw 0) hq
      (refine hP [(0,0),(1,0),(2,0),(3,0),(4,0),(5,0),(6,0),(7,0),(8,0),(9,0),(10,0),(24,0)] _ _ _ _ ?_ rfl ?_ hk<;>(first|(rfl;done)|(refine⟨⟨rfl,rfl,rfl,?_⟩,rfl,rfl,aT _,⟨rfl,rfl,rfl,?_⟩,rfl,⟨rfl,rfl,rfl,rfl⟩,rfl,⟨rfl,rfl,rfl,?_⟩,rfl,rfl,?_,trivial⟩<;>rfl)))
   ·have q3:decide (tl<lt)=true:=by rw[hC] at hq3;exact hq3
    repeat (any_goals (simp only[hq3];try (cbv;repeat' first|exact O5|intro β;cbv|apply O4|apply p0;done|apply yna;done)))
    refine inl @hI Tryz.func178 Tryz.ntmps178 rfl rfl ?_;cbv;repeat' first|exact O5|intro β;cbv|apply O4|apply p0;done|apply yna;done
    repeat (any_goals (simp only[c7,c1,v65,v66,v64,c3];try (cbv;repeat' first|exact O5|intro β;cbv|apply O4|apply p0;done|apply yna;done)))
    rename_i bw;simp only[ena,ejf];have hq:true=((vote==fr||vote==0)&&(decide (tl<lt)||(lt==tl&&decide (la≤ix)))):=by first|(rw[q1,q2];done)|(rw[q1,q2];rfl)|(rw[q1,q3];rfl)|(rw[q1,q3,q4];rfl)|(rw[q1,q3,q4,q5];rfl)|(rw[q1,q2,q3];rfl)|(rw[q1,q2,q3,q4];rfl)|(rw[q1,q2,q3,q4,q5];rfl)
    have hk:=hKK true (apx bQ (apx bQ k2)) (apx bQ k4) (apx bQ k1) (bw 1) (bw 2) (bw 3) (bw 0) hq
    (refine hP [(0,0),(1,0),(2,0),(3,0),(4,0),(5,0),(6,0),(7,0),(8,0),(9,0),(10,0),(24,0)] _ _ _ _ ?_ rfl ?_ hk<;>(first|(rfl;done)|(refine⟨⟨rfl,rfl,rfl,?_⟩,rfl,rfl,aT _,⟨rfl,rfl,rfl,?_⟩,rfl,⟨rfl,rfl,rfl,rfl⟩,rfl,⟨rfl,rfl,rfl,?_⟩,rfl,rfl,?_,trivial⟩<;>rfl)))
 ·have q1:(vote==fr)=true:=by rw[hC] at hq1;exact hq1
  repeat (any_goals (simp only[hq1,c7,c8,hoL,hoI];try (cbv;repeat' first|exact O5|intro β;cbv|apply O4|apply p0;done|apply yna;done)))
  refine inl @hI Tryz.func190 Tryz.ntmps190 rfl rfl ?_;cbv;repeat' first|exact O5|intro β;cbv|apply O4|apply p0;done|apply yna;done
  refine inl @hI Tryz.func223 Tryz.ntmps223 rfl rfl ?_;cbv;repeat' first|exact O5|intro β;cbv|apply O4|apply p0;done|apply yna;done
  repeat (any_goals (simp only[hl,hd2];try (cbv;repeat' first|exact O5|intro β;cbv|apply O4|apply p0;done|apply yna;done)))
  rcases hq3:CM .lt tl lt with _|_
  ·have q3:decide (tl<lt)=false:=by rw[hC] at hq3;exact hq3
   rcases hq4:CM .eq lt tl with _|_
   ·have q4:(lt==tl)=false:=by rw[hC] at hq4;exact hq4
    repeat (any_goals (simp only[hq3,hq4];try (cbv;repeat' first|exact O5|intro β;cbv|apply O4|apply p0;done|apply yna;done)))
    refine inl @hI Tryz.func178 Tryz.ntmps178 rfl rfl ?_;cbv;repeat' first|exact O5|intro β;cbv|apply O4|apply p0;done|apply yna;done
    repeat (any_goals (simp only[c7,c1,v65,v66,v64];try (cbv;repeat' first|exact O5|intro β;cbv|apply O4|apply p0;done|apply yna;done)))
    rename_i bw;simp only[ena,ejf];have hq:false=((vote==fr||vote==0)&&(decide (tl<lt)||(lt==tl&&decide (la≤ix)))):=by first|(rw[q1,q2];done)|(rw[q1,q2];rfl)|(rw[q1,q3];rfl)|(rw[q1,q3,q4];rfl)|(rw[q1,q3,q4,q5];rfl)|(rw[q1,q2,q3];rfl)|(rw[q1,q2,q3,q4];rfl)|(rw[q1,q2,q3,q4,q5];rfl)
    have hk:=hKK false (apx bQ (apx bQ k2)) (apx bQ k4) (apx bQ k1) (bw 1) (bw 2) (bw 3) (bw 0) hq
    (refine hP [(0,0),(1,0),(2,0),(3,0),(4,0),(5,0),(6,0),(7,0),(8,0),(9,0),(10,0),(25,0)] _ _ _ _ ?_ rfl ?_ hk<;>(first|(rfl;done)|(refine⟨⟨rfl,rfl,rfl,?_⟩,rfl,rfl,aT _,⟨rfl,rfl,rfl,?_⟩,rfl,⟨rfl,rfl,rfl,rfl⟩,rfl,⟨rfl,rfl,rfl,?_⟩,rfl,rfl,?_,trivial⟩<;>rfl)))
   ·have q4:(lt==tl)=true:=by rw[hC] at hq4;exact hq4
    rcases hq5:CM .le la ix with _|_
    ·have q5:decide (la≤ix)=false:=by rw[hC] at hq5;exact hq5
     repeat (any_goals (simp only[hq3,hq4,hq5];try (cbv;repeat' first|exact O5|intro β;cbv|apply O4|apply p0;done|apply yna;done)))
     refine inl @hI Tryz.func178 Tryz.ntmps178 rfl rfl ?_;cbv;repeat' first|exact O5|intro β;cbv|apply O4|apply p0;done|apply yna;done
     repeat (any_goals (simp only[c7,c1,v65,v66,v64];try (cbv;repeat' first|exact O5|intro β;cbv|apply O4|apply p0;done|apply yna;done)))
     rename_i bw;simp only[ena,ejf];have hq:false=((vote==fr||vote==0)&&(decide (tl<lt)||(lt==tl&&decide (la≤ix)))):=by first|(rw[q1,q2];done)|(rw[q1,q2];rfl)|(rw[q1,q3];rfl)|(rw[q1,q3,q4];rfl)|(rw[q1,q3,q4,q5];rfl)|(rw[q1,q2,q3];rfl)|(rw[q1,q2,q3,q4];rfl)|(rw[q1,q2,q3,q4,q5];rfl)
     have hk:=hKK false (apx bQ (apx bQ k2)) (apx bQ k4) (apx bQ k1) (bw 1) (bw 2) (bw 3) (bw 0) hq
     (refine hP [(0,0),(1,0),(2,0),(3,0),(4,0),(5,0),(6,0),(7,0),(8,0),(9,0),(10,0),(25,0)] _ _ _ _ ?_ rfl ?_ hk<;>(first|(rfl;done)|(refine⟨⟨rfl,rfl,rfl,?_⟩,rfl,rfl,aT _,⟨rfl,rfl,rfl,?_⟩,rfl,⟨rfl,rfl,rfl,rfl⟩,rfl,⟨rfl,rfl,rfl,?_⟩,rfl,rfl,?_,trivial⟩<;>rfl)))
    ·have q5:decide (la≤ix)=true:=by rw[hC] at hq5;exact hq5
     repeat (any_goals (simp only[hq3,hq4,hq5];try (cbv;repeat' first|exact O5|intro β;cbv|apply O4|apply p0;done|apply yna;done)))
     refine inl @hI Tryz.func178 Tryz.ntmps178 rfl rfl ?_;cbv;repeat' first|exact O5|intro β;cbv|apply O4|apply p0;done|apply yna;done
     repeat (any_goals (simp only[c7,c1,v65,v66,v64,c3];try (cbv;repeat' first|exact O5|intro β;cbv|apply O4|apply p0;done|apply yna;done)))
     rename_i bw;simp only[ena,ejf];have hq:true=((vote==fr||vote==0)&&(decide (tl<lt)||(lt==tl&&decide (la≤ix)))):=by first|(rw[q1,q2];done)|(rw[q1,q2];rfl)|(rw[q1,q3];rfl)|(rw[q1,q3,q4];rfl)|(rw[q1,q3,q4,q5];rfl)|(rw[q1,q2,q3];rfl)|(rw[q1,q2,q3,q4];rfl)|(rw[q1,q2,q3,q4,q5];rfl)
     have hk:=hKK true (apx bQ (apx bQ k2)) (apx bQ k4) (apx bQ k1) (bw 1) (bw 2) (bw 3) (bw 0) hq
     (refine hP [(0,0),(1,0),(2,0),(3,0),(4,0),(5,0),(6,0),(7,0),(8,0),(9,0),(10,0),(24,0)] _ _ _ _ ?_ rfl ?_ hk<;>(first|(rfl;done)|(refine⟨⟨rfl,rfl,rfl,?_⟩,rfl,rfl,aT _,⟨rfl,rfl,rfl,?_⟩,rfl,⟨rfl,rfl,rfl,rfl⟩,rfl,⟨rfl,rfl,rfl,?_⟩,rfl,rfl,?_,trivial⟩<;>rfl)))
  ·have q3:decide (tl<lt)=true:=by rw[hC] at hq3;exact hq3
   repeat (any_goals (simp only[hq3];try (cbv;repeat' first|exact O5|intro β;cbv|apply O4|apply p0;done|apply yna;done)))
   refine inl @hI Tryz.func178 Tryz.ntmps178 rfl rfl ?_;cbv;repeat' first|exact O5|intro β;cbv|apply O4|apply p0;done|apply yna;done
   repeat (any_goals (simp only[c7,c1,v65,v66,v64,c3];try (cbv;repeat' first|exact O5|intro β;cbv|apply O4|apply p0;done|apply yna;done)))
   rename_i bw;simp only[ena,ejf];have hq:true=((vote==fr||vote==0)&&(decide (tl<lt)||(lt==tl&&decide (la≤ix)))):=by first|(rw[q1,q2];done)|(rw[q1,q2];rfl)|(rw[q1,q3];rfl)|(rw[q1,q3,q4];rfl)|(rw[q1,q3,q4,q5];rfl)|(rw[q1,q2,q3];rfl)|(rw[q1,q2,q3,q4];rfl)|(rw[q1,q2,q3,q4,q5];rfl)
   have hk:=hKK true (apx bQ (apx bQ k2)) (apx bQ k4) (apx bQ k1) (bw 1) (bw 2) (bw 3) (bw 0) hq
   (refine hP [(0,0),(1,0),(2,0),(3,0),(4,0),(5,0),(6,0),(7,0),(8,0),(9,0),(10,0),(24,0)] _ _ _ _ ?_ rfl ?_ hk<;>(first|(rfl;done)|(refine⟨⟨rfl,rfl,rfl,?_⟩,rfl,rfl,aT _,⟨rfl,rfl,rfl,?_⟩,rfl,⟨rfl,rfl,rfl,rfl⟩,rfl,⟨rfl,rfl,rfl,?_⟩,rfl,rfl,?_,trivial⟩<;>rfl)))
end Go.Sx
