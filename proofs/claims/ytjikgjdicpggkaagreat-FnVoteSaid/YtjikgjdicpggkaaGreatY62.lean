import Derived.Test.YtjikgjdicpggkaaGreatY24
import Derived.Test.YtjikgjdicpggkaaGreatY61
set_option autoImplicit true
set_option relaxedAutoImplicit true
set_option linter.all false
set_option maxRecDepth 100000
set_option maxHeartbeats 4000000
namespace Go.Sx
open Go Go.Proofs
theorem s139w {x:RF} {lf:Bool} {o:LL} {V L:List Int} {P':MQ} {s:STO} {g:LGF} {h1 h2:Value} {z:ZF} {ro:Int} {to fr tm lt ix tl la rt2 nx2:Int} {oL oIzq:Option Int} {ab mb:Nat} {K:SV→List C→Prop} (hT:TrkOK V L P') (hVL:V.length+L.length≤13)
  (hs0:0≤s.i0) (hs1:s.i0≤1099511627776) (hsn1:1≤s.n) (hsn2:s.n≤100000) (hgo:g.off=s.i0+s.n) (htm:1≤tm) (hfr:1≤fr) (hoL:lB 0 oL=lt) (hoI:lB 0 oIzq=ix)
  (hla:la=s.i0+s.n-1) (hlast:∃a b c,nth (GQ s::s.es) (s.n-1)=.st 212 [.oi 22 .u64 (some tl),a,b,c]) (ht:x.term<tm) (hld:x.lead=0) (hnx:0≤x.nx) (hnx2:x.nx<1099511627776) (hzl:z.l≤1000) (hrt:rt2=EB x.et (rndP (z.Z,z.l,x.nx,x.et))) (hnx3:nx2=nxP (z.l,x.nx)) (het:0<x.et) (het2:x.et≤1000)
  (hKK:∀(gr:Bool) (d2 d4 d1:Int) (rb off cap:Nat) (nn:Nat) (P2:MQ) (wb ob ab2:Nat),TrkOK V L P2→gr=(decide (tl<lt)||(lt==tl&&decide (la≤ix)))→
   K (.v .nilIface) (fI {x with term:=tm,vote:=if gr then fr else 0,rt:=rt2,nx:=nx2,wb:=wb,ob:=ob} o lf (.v (.slice none 0 0)) (.sl 11 nn rb off 1 cap) V P2 g ro ab2 z {s with hs:=.v h1,sn:=.v h2,c1:=d1,c2:=d2,c4:=d4}++[.prd (.sl true nn rb off cap (.sl 176 1 1 [vrF fr x.id tm (if gr then none else some true)]))])) (F:HProp):
  inS Tryz.prog F 139 [.ptr 0 x.b 0,.ptr 11 mb 0]
   (fI x o lf (.v (.slice none 0 0)) (.v (.slice none 0 0)) V P' g ro ab z {s with hs:=.v h1,sn:=.v h2}++[.prd (.st mb 269 (rvF to fr tm oL oIzq))]) K:=by
 obtain⟨b,id,term,vote,lb,ms,vb,pb,wb,mi,lead,cq,pv,hT',et,rt,nf,sd,ob,nx⟩:=x;obtain⟨g1,g2,g3,g4,g5,g6,g7⟩:=g;obtain⟨sb,hs,sn',nn,eb,off,cap,n,k0,k1,k2,k3,k4,k5,sp,t0,i0,f3,f4,es⟩:=s;obtain⟨zp,zn,zb,zo,zl,zc,Z⟩:=z;change 0≤i0 at hs0;change i0≤1099511627776 at hs1;change 1≤n at hsn1;change n≤100000 at hsn2;change term<tm at ht;change 0≤nx at hnx;change nx<1099511627776 at hnx2;change zl≤1000 at hzl;change rt2=EB et (rndP (Z,zl,nx,et)) at hrt;change nx2=nxP (zl,nx) at hnx3;change 0<et at het;change et≤1000 at het2;change g1=i0+(n:Int) at hgo;obtain⟨fa,fb,fc,hlast⟩:=hlast;change la=i0+(n:Int)-1 at hla;change nth (.st 212 [.oi 22 .u64 (some t0),.oi 22 .u64 (some i0),f3,f4]::es) (n-1)=.st 212 [.oi 22 .u64 (some tl),fa,fb,fc] at hlast;change lead=0 at hld;subst hld;refine spec_ok3 ⟨false,false⟩ (fun TX=>[vB TX,r272 TX,wS,AO,zK,C0,r179,r184,nH,r191,qW]) (fun _=>(.cons uH (.cons x272 (.cons xI (.cons zX (.cons AI (.cons EM (.cons x179 (.cons x184 (.cons nU (.cons x191 (.cons qX .nil)))))))))))) Tryz.func139 Tryz.ntmps139 rfl rfl ?_;intros;rename_i jf hjf _ _ _ _ _ _ _ _ _ _ TX hTX na hna _ _ CM hC _ _ _ _ ST _ hU hI hL hST _ hN hsat hP;have hcast:∀c σ K,KV Tryz.prog F c σ K→ST c σ K:=fun c σ K h=>by rw[hST];exact h
 obtain⟨tz,tls,tt,to0,apx⟩:=TX;have hap:∀{α β:Type} (f:α→β) (x:α),apx f x=f x:=fun f x=>congrArg (fun t:TF=>t.ap f x) hTX;have p0:∀k,gT k (apx bQ k):=fun k=>⟨by rw[hap];rfl⟩;have e1:apx dK (i0,n)=i0+n-1:=by rw[hap];rfl
 have o2:xF i0 n (apx dK (i0,n)):=⟨hs0,by omega,by rw[hap];rfl,hsn1⟩;have hd:apx BU (.st 212 [.oi 22 .u64 (some t0),.oi 22 .u64 (some i0),f3,f4]::es,apx dK (i0,n),i0)=tl:=by
  have e3:(apx dK (i0,n)-i0).toNat=n-1:=by rw[e1];omega
  rw[hap];simp only[BU,e3,hlast]
 have o3:OTrm i0 t0 n f3 f4 es g1 (apx dK (i0,n)) (apx BU (.st 212 [.oi 22 .u64 (some t0),.oi 22 .u64 (some i0),f3,f4]::es,apx dK (i0,n),i0)):=by
  have e3:(apx dK (i0,n)-i0).toNat=n-1:=by rw[e1];omega
  refine⟨hs0,by omega,by rw[e1];omega,by rw[e1];omega,by rw[e1];omega,fa,fb,fc,?_⟩;rw[e3,hlast,hd]
 have c1:CM .eq tm 0=false:=O6;have c2:CM .lt term tm=true:=O6;have c9:CM .ne 0 0=false:=O6;have c3:CM .eq 5 5=true:=O6;have c4:CM .eq 5 0=false:=O6;have c5:CM .eq 5 20=false:=O6;have c6:CM .eq 5 22=false:=O6;have c7:CM .eq 0 0=true:=O6;have c8:CM .eq 5 17=false:=O6;have c18:CM .eq 5 18=false:=O6;have c53:CM .eq 5 3=false:=O6;have c58:CM .eq 5 8=false:=O6;have c57:CM .eq 5 7=false:=O6;have v65:CM .eq 6 5=false:=O6;have v66:CM .eq 6 6=true:=O6;have v64:CM .eq 6 4=false:=O6;have yna:CM .le (Int.ofNat (na 0 1)) 4294967296=true:=by rw[hC,hna];rfl
 have ena:na 0 1=1:=by rw[hna]
 have ejf:∀l,jf [] l=l:=by intro l;rw[hjf];rfl
 have o191:O191 5:=⟨rfl⟩;have hl:apx dK (i0,n)=la:=by rw[e1,hla]
 have hd2:apx BU (.st 212 [.oi 22 .u64 (some t0),.oi 22 .u64 (some i0),f3,f4]::es,la,i0)=tl:=by rw[←hl];exact hd
 unfold lB at hoL hoI;have h0f:CM .eq 0 fr=false:=O6;cbv;repeat' first|exact O5|intro β;cbv|apply O4|apply p0;done|apply yna;done
 repeat (any_goals (simp only[c1,c2,c3];try (cbv;repeat' first|exact O5|intro β;cbv|apply O4|apply p0;done|apply yna;done)))
 refine hcast _ _ _ (r6_wp (p:=11) (mb:=mb) (hh:=11) (g:=fun k=>nth (rvF to fr tm oL oIzq) k) rfl rfl (Nat.le_of_ble_eq_true rfl) rfl rfl rfl rfl rfl rfl rfl rfl rfl rfl rfl rfl rfl rfl rfl rfl rfl rfl (fun y2 y3 y4=>?_));cases cq with
 |false=>
  cbv;repeat' first|exact O5|intro β;cbv|apply O4|apply p0;done|apply yna;done
  repeat (any_goals (simp only[c8,c9,c18,c53,c58,c57];try (cbv;repeat' first|exact O5|intro β;cbv|apply O4|apply p0;done|apply yna;done)))
  refine aD hN [0,1,2,3,4,5,6,7,8,9] (by decide) rfl ?_ ?_ (CX (x:=⟨b,id,term,vote,lb,ms,vb,pb,wb,mi,0,false,pv,hT',et,rt,nf,sd,ob,nx⟩) (lf:=lf) (o:=o) (tkv:=yS b) (st:=nZ) (V:=V) (L:=L) (P':=P') (s:=⟨sb,.v h1,.v h2,nn,eb,off,cap,n,k0,k1,k2,k3,k4,k5,sp,t0,i0,f3,f4,es⟩)
   (g:=⟨g1,g2,g3,g4,g5,g6,g7⟩) (h1:=h1) (h2:=h2) (zn:=zn) (zb:=zb) (zo:=zo) (zl:=zl) (zc:=zc) (spz:=zp) (Z:=Z) (ro:=ro) (w1:=.map (some ab)) (w2:=.slice none 0 0) (w3:=.int .u64 0) (t:=tm) (v:=0) (ld:=0) (rt2:=rt2) (nx2:=nx2) (C5:=?q5CQ) hT hVL hs0 hs1 hsn1 hsn2 (by show (0:Int)=if term=tm then vote else 0;rw[if_neg (by omega)]) hnx hnx2 hzl hrt hnx3 het het2 ?_)
  ·rfl
  ·refine⟨?_,?_,?_,?_,?_,?_,?_,?_,?_,?_,trivial⟩
   all_goals first|exact⟨rfl,rfl,rfl,rfl⟩|exact aT _|exact rfl
  intro P2 dd wb2 ob2 ab2 hT2;cbv;repeat' first|exact O5|intro β;cbv|apply O4|apply p0;done|apply yna;done
  repeat (any_goals (simp only[c1,c2,c3,c4,c5,c6,c7,c8,c9,h0f,hoL,hoI];try (cbv;repeat' first|exact O5|intro β;cbv|apply O4|apply p0;done|apply yna;done)))
  refine inl @hI Tryz.func190 Tryz.ntmps190 rfl rfl ?_;cbv;repeat' first|exact O5|intro β;cbv|apply O4|apply p0;done|apply yna;done
  refine inl @hI Tryz.func223 Tryz.ntmps223 rfl rfl ?_;cbv;repeat' first|exact O5|intro β;cbv|apply O4|apply p0;done|apply yna;done
  repeat (any_goals (simp only[hl,hd2];try (cbv;repeat' first|exact O5|intro β;cbv|apply O4|apply p0;done|apply yna;done)))
  rcases hq3:CM .lt tl lt with _|_
  ·have q3:decide (tl<lt)=false:=by rw[hC] at hq3;exact hq3
   rcases hq4:CM .eq lt tl with _|_
   ·have q4:(lt==tl)=false:=by rw[hC] at hq4;exact hq4
    repeat (any_goals (simp only[hq3,hq4];try (cbv;repeat' first|exact O5|intro β;cbv|apply O4|apply p0;done|apply yna;done)))
    refine inl @hI Tryz.func178 Tryz.ntmps178 rfl rfl ?_;cbv;repeat' first|exact O5|intro β;cbv|apply O4|apply p0;done|apply yna;done
    repeat (any_goals (simp only[c7,c1,v65,v66,v64];try (cbv;repeat' first|exact O5|intro β;cbv|apply O4|apply p0;done|apply yna;done)))
    rename_i bw;simp only[ena,ejf];have hq:false=(decide (tl<lt)||(lt==tl&&decide (la≤ix))):=by first|(rw[q3];rfl)|(rw[q3,q4];rfl)|(rw[q3,q4,q5];rfl)
    have hk:=hKK false (apx bQ (apx bQ dd)) (apx bQ k4) (apx bQ k1) (bw 1) (bw 2) (bw 3) (bw 0) P2 wb2 ob2 ab2 hT2 hq;rcases o with _|⟨oc,ol⟩<;>refine hP [(0,0),(1,0),(2,0),(3,0),(4,0),(5,0),(6,0),(7,0),(8,0),(9,0),(12,0),(26,0)] _ _ _ _ ?_ rfl ?_ hk<;>(first|(rfl;done)|(refine⟨?_,?_,?_,?_,?_,?_,?_,?_,?_,?_,?_,?_,trivial⟩<;>first|exact⟨rfl,rfl,rfl,rfl⟩|exact rfl|exact aT _|(refine⟨rfl,rfl,rfl,?_⟩<;>rfl)))
   ·have q4:(lt==tl)=true:=by rw[hC] at hq4;exact hq4
    rcases hq5:CM .le la ix with _|_
    ·have q5:decide (la≤ix)=false:=by rw[hC] at hq5;exact hq5
     repeat (any_goals (simp only[hq3,hq4,hq5];try (cbv;repeat' first|exact O5|intro β;cbv|apply O4|apply p0;done|apply yna;done)))
     refine inl @hI Tryz.func178 Tryz.ntmps178 rfl rfl ?_;cbv;repeat' first|exact O5|intro β;cbv|apply O4|apply p0;done|apply yna;done
     repeat (any_goals (simp only[c7,c1,v65,v66,v64];try (cbv;repeat' first|exact O5|intro β;cbv|apply O4|apply p0;done|apply yna;done)))
     rename_i bw;simp only[ena,ejf];have hq:false=(decide (tl<lt)||(lt==tl&&decide (la≤ix))):=by first|(rw[q3];rfl)|(rw[q3,q4];rfl)|(rw[q3,q4,q5];rfl)
     have hk:=hKK false (apx bQ (apx bQ dd)) (apx bQ k4) (apx bQ k1) (bw 1) (bw 2) (bw 3) (bw 0) P2 wb2 ob2 ab2 hT2 hq;rcases o with _|⟨oc,ol⟩<;>refine hP [(0,0),(1,0),(2,0),(3,0),(4,0),(5,0),(6,0),(7,0),(8,0),(9,0),(12,0),(26,0)] _ _ _ _ ?_ rfl ?_ hk<;>(first|(rfl;done)|(refine⟨?_,?_,?_,?_,?_,?_,?_,?_,?_,?_,?_,?_,trivial⟩<;>first|exact⟨rfl,rfl,rfl,rfl⟩|exact rfl|exact aT _|(refine⟨rfl,rfl,rfl,?_⟩<;>rfl)))
    ·have q5:decide (la≤ix)=true:=by rw[hC] at hq5;exact hq5
     repeat (any_goals (simp only[hq3,hq4,hq5];try (cbv;repeat' first|exact O5|intro β;cbv|apply O4|apply p0;done|apply yna;done)))
     refine inl @hI Tryz.func178 Tryz.ntmps178 rfl rfl ?_;cbv;repeat' first|exact O5|intro β;cbv|apply O4|apply p0;done|apply yna;done
     repeat (any_goals (simp only[c7,c1,v65,v66,v64,c3];try (cbv;repeat' first|exact O5|intro β;cbv|apply O4|apply p0;done|apply yna;done)))
     rename_i bw;simp only[ena,ejf];have hq:true=(decide (tl<lt)||(lt==tl&&decide (la≤ix))):=by first|(rw[q3];rfl)|(rw[q3,q4];rfl)|(rw[q3,q4,q5];rfl)
     have hk:=hKK true (apx bQ (apx bQ dd)) (apx bQ k4) (apx bQ k1) (bw 1) (bw 2) (bw 3) (bw 0) P2 wb2 ob2 ab2 hT2 hq;rcases o with _|⟨oc,ol⟩<;>refine hP [(0,0),(1,0),(2,0),(3,0),(4,0),(5,0),(6,0),(7,0),(8,0),(9,0),(12,0),(25,0)] _ _ _ _ ?_ rfl ?_ hk<;>(first|(rfl;done)|(refine⟨?_,?_,?_,?_,?_,?_,?_,?_,?_,?_,?_,?_,trivial⟩<;>first|exact⟨rfl,rfl,rfl,rfl⟩|exact rfl|exact aT _|(refine⟨rfl,rfl,rfl,?_⟩<;>rfl)))
  ·have q3:decide (tl<lt)=true:=by rw[hC] at hq3;exact hq3
   repeat (any_goals (simp only[hq3];try (cbv;repeat' first|exact O5|intro β;cbv|apply O4|apply p0;done|apply yna;done)))
   refine inl @hI Tryz.func178 Tryz.ntmps178 rfl rfl ?_;cbv;repeat' first|exact O5|intro β;cbv|apply O4|apply p0;done|apply yna;done
   repeat (any_goals (simp only[c7,c1,v65,v66,v64,c3];try (cbv;repeat' first|exact O5|intro β;cbv|apply O4|apply p0;done|apply yna;done)))
   rename_i bw;simp only[ena,ejf];have hq:true=(decide (tl<lt)||(lt==tl&&decide (la≤ix))):=by first|(rw[q3];rfl)|(rw[q3,q4];rfl)|(rw[q3,q4,q5];rfl)
   have hk:=hKK true (apx bQ (apx bQ dd)) (apx bQ k4) (apx bQ k1) (bw 1) (bw 2) (bw 3) (bw 0) P2 wb2 ob2 ab2 hT2 hq;rcases o with _|⟨oc,ol⟩<;>refine hP [(0,0),(1,0),(2,0),(3,0),(4,0),(5,0),(6,0),(7,0),(8,0),(9,0),(12,0),(25,0)] _ _ _ _ ?_ rfl ?_ hk<;>(first|(rfl;done)|(refine⟨?_,?_,?_,?_,?_,?_,?_,?_,?_,?_,?_,?_,trivial⟩<;>first|exact⟨rfl,rfl,rfl,rfl⟩|exact rfl|exact aT _|(refine⟨rfl,rfl,rfl,?_⟩<;>rfl)))
 |true=>
  cbv;repeat' first|exact O5|intro β;cbv|apply O4|apply p0;done|apply yna;done
  repeat (any_goals (simp only[c8,c9,c18,c53,c58,c57];try (cbv;repeat' first|exact O5|intro β;cbv|apply O4|apply p0;done|apply yna;done)))
  refine aD hN [0,1,2,3,4,5,6,7,8,9] (by decide) rfl ?_ ?_ (CX (x:=⟨b,id,term,vote,lb,ms,vb,pb,wb,mi,0,true,pv,hT',et,rt,nf,sd,ob,nx⟩) (lf:=lf) (o:=o) (tkv:=yS b) (st:=nZ) (V:=V) (L:=L) (P':=P') (s:=⟨sb,.v h1,.v h2,nn,eb,off,cap,n,k0,k1,k2,k3,k4,k5,sp,t0,i0,f3,f4,es⟩)
   (g:=⟨g1,g2,g3,g4,g5,g6,g7⟩) (h1:=h1) (h2:=h2) (zn:=zn) (zb:=zb) (zo:=zo) (zl:=zl) (zc:=zc) (spz:=zp) (Z:=Z) (ro:=ro) (w1:=.map (some ab)) (w2:=.slice none 0 0) (w3:=.int .u64 0) (t:=tm) (v:=0) (ld:=0) (rt2:=rt2) (nx2:=nx2) (C5:=?q5CQ) hT hVL hs0 hs1 hsn1 hsn2 (by show (0:Int)=if term=tm then vote else 0;rw[if_neg (by omega)]) hnx hnx2 hzl hrt hnx3 het het2 ?_)
  ·rfl
  ·refine⟨?_,?_,?_,?_,?_,?_,?_,?_,?_,?_,trivial⟩
   all_goals first|exact⟨rfl,rfl,rfl,rfl⟩|exact aT _|exact rfl
  intro P2 dd wb2 ob2 ab2 hT2;cbv;repeat' first|exact O5|intro β;cbv|apply O4|apply p0;done|apply yna;done
  repeat (any_goals (simp only[c1,c2,c3,c4,c5,c6,c7,c8,c9,h0f,hoL,hoI];try (cbv;repeat' first|exact O5|intro β;cbv|apply O4|apply p0;done|apply yna;done)))
  refine inl @hI Tryz.func190 Tryz.ntmps190 rfl rfl ?_;cbv;repeat' first|exact O5|intro β;cbv|apply O4|apply p0;done|apply yna;done
  refine inl @hI Tryz.func223 Tryz.ntmps223 rfl rfl ?_;cbv;repeat' first|exact O5|intro β;cbv|apply O4|apply p0;done|apply yna;done
  repeat (any_goals (simp only[hl,hd2];try (cbv;repeat' first|exact O5|intro β;cbv|apply O4|apply p0;done|apply yna;done)))
  rcases hq3:CM .lt tl lt with _|_
  ·have q3:decide (tl<lt)=false:=by rw[hC] at hq3;exact hq3
   rcases hq4:CM .eq lt tl with _|_
   ·have q4:(lt==tl)=false:=by rw[hC] at hq4;exact hq4
    repeat (any_goals (simp only[hq3,hq4];try (cbv;repeat' first|exact O5|intro β;cbv|apply O4|apply p0;done|apply yna;done)))
    refine inl @hI Tryz.func178 Tryz.ntmps178 rfl rfl ?_;cbv;repeat' first|exact O5|intro β;cbv|apply O4|apply p0;done|apply yna;done
    repeat (any_goals (simp only[c7,c1,v65,v66,v64];try (cbv;repeat' first|exact O5|intro β;cbv|apply O4|apply p0;done|apply yna;done)))
    rename_i bw;simp only[ena,ejf];have hq:false=(decide (tl<lt)||(lt==tl&&decide (la≤ix))):=by first|(rw[q3];rfl)|(rw[q3,q4];rfl)|(rw[q3,q4,q5];rfl)
    have hk:=hKK false (apx bQ (apx bQ dd)) (apx bQ k4) (apx bQ k1) (bw 1) (bw 2) (bw 3) (bw 0) P2 wb2 ob2 ab2 hT2 hq;rcases o with _|⟨oc,ol⟩<;>refine hP [(0,0),(1,0),(2,0),(3,0),(4,0),(5,0),(6,0),(7,0),(8,0),(9,0),(12,0),(26,0)] _ _ _ _ ?_ rfl ?_ hk<;>(first|(rfl;done)|(refine⟨?_,?_,?_,?_,?_,?_,?_,?_,?_,?_,?_,?_,trivial⟩<;>first|exact⟨rfl,rfl,rfl,rfl⟩|exact rfl|exact aT _|(refine⟨rfl,rfl,rfl,?_⟩<;>rfl)))
   ·have q4:(lt==tl)=true:=by rw[hC] at hq4;exact hq4
    rcases hq5:CM .le la ix with _|_
    ·have q5:decide (la≤ix)=false:=by rw[hC] at hq5;exact hq5
     repeat (any_goals (simp only[hq3,hq4,hq5];try (cbv;repeat' first|exact O5|intro β;cbv|apply O4|apply p0;done|apply yna;done)))
     refine inl @hI Tryz.func178 Tryz.ntmps178 rfl rfl ?_;cbv;repeat' first|exact O5|intro β;cbv|apply O4|apply p0;done|apply yna;done
     repeat (any_goals (simp only[c7,c1,v65,v66,v64];try (cbv;repeat' first|exact O5|intro β;cbv|apply O4|apply p0;done|apply yna;done)))
     rename_i bw;simp only[ena,ejf];have hq:false=(decide (tl<lt)||(lt==tl&&decide (la≤ix))):=by first|(rw[q3];rfl)|(rw[q3,q4];rfl)|(rw[q3,q4,q5];rfl)
     have hk:=hKK false (apx bQ (apx bQ dd)) (apx bQ k4) (apx bQ k1) (bw 1) (bw 2) (bw 3) (bw 0) P2 wb2 ob2 ab2 hT2 hq;rcases o with _|⟨oc,ol⟩<;>refine hP [(0,0),(1,0),(2,0),(3,0),(4,0),(5,0),(6,0),(7,0),(8,0),(9,0),(12,0),(26,0)] _ _ _ _ ?_ rfl ?_ hk<;>(first|(rfl;done)|(refine⟨?_,?_,?_,?_,?_,?_,?_,?_,?_,?_,?_,?_,trivial⟩<;>first|exact⟨rfl,rfl,rfl,rfl⟩|exact rfl|exact aT _|(refine⟨rfl,rfl,rfl,?_⟩<;>rfl)))
    ·have q5:decide (la≤ix)=true:=by rw[hC] at hq5;exact hq5
     repeat (any_goals (simp only[hq3,hq4,hq5];try (cbv;repeat' first|exact O5|intro β;cbv|apply O4|apply p0;done|apply yna;done)))
     refine inl @hI Tryz.func178 Tryz.ntmps178 rfl rfl ?_;cbv;repeat' first|exact O5|intro β;cbv|apply O4|apply p0;done|apply yna;done
     repeat (any_goals (simp only[c7,c1,v65,v66,v64,c3];try (cbv;repeat' first|exact O5|intro β;cbv|apply O4|apply p0;done|apply yna;done)))
     rename_i bw;simp only[ena,ejf];have hq:true=(decide (tl<lt)||(lt==tl&&decide (la≤ix))):=by first|(rw[q3];rfl)|(rw[q3,q4];rfl)|(rw[q3,q4,q5];rfl)
     have hk:=hKK true (apx bQ (apx bQ dd)) (apx bQ k4) (apx bQ k1) (bw 1) (bw 2) (bw 3) (bw 0) P2 wb2 ob2 ab2 hT2 hq;rcases o with _|⟨oc,ol⟩<;>refine hP [(0,0),(1,0),(2,0),(3,0),(4,0),(5,0),(6,0),(7,0),(8,0),(9,0),(12,0),(25,0)] _ _ _ _ ?_ rfl ?_ hk<;>(first|(rfl;done)|(refine⟨?_,?_,?_,?_,?_,?_,?_,?_,?_,?_,?_,?_,trivial⟩<;>first|exact⟨rfl,rfl,rfl,rfl⟩|exact rfl|exact aT _|(refine⟨rfl,rfl,rfl,?_⟩<;>rfl)))
  ·have q3:decide (tl<lt)=true:=by rw[hC] at hq3;exact hq3
   repeat (any_goals (simp only[hq3];try (cbv;repeat' first|exact O5|intro β;cbv|apply O4|apply p0;done|apply yna;done)))
   refine inl @hI Tryz.func178 Tryz.ntmps178 rfl rfl ?_;cbv;repeat' first|exact O5|intro β;cbv|apply O4|apply p0;done|apply yna;done
   repeat (any_goals (simp only[c7,c1,v65,v66,v64,c3];try (cbv;repeat' first|exact O5|intro β;cbv|apply O4|apply p0;done|apply yna;done)))
   rename_i bw;simp only[ena,ejf];have hq:true=(decide (tl<lt)||(lt==tl&&decide (la≤ix))):=by first|(rw[q3];rfl)|(rw[q3,q4];rfl)|(rw[q3,q4,q5];rfl)
   have hk:=hKK true (apx bQ (apx bQ dd)) (apx bQ k4) (apx bQ k1) (bw 1) (bw 2) (bw 3) (bw 0) P2 wb2 ob2 ab2 hT2 hq;rcases o with _|⟨oc,ol⟩<;>refine hP [(0,0),(1,0),(2,0),(3,0),(4,0),(5,0),(6,0),(7,0),(8,0),(9,0),(12,0),(25,0)] _ _ _ _ ?_ rfl ?_ hk<;>(first|(rfl;done)|(refine⟨?_,?_,?_,?_,?_,?_,?_,?_,?_,?_,?_,?_,trivial⟩<;>first|exact⟨rfl,rfl,rfl,rfl⟩|exact rfl|exact aT _|(refine⟨rfl,rfl,rfl,?_⟩<;>rfl)))
end Go.Sx
