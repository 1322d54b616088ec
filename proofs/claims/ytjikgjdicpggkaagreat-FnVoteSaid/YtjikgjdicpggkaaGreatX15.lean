import Derived.Test.YtjikgjdicpggkaaGreatX14
set_option autoImplicit true
set_option relaxedAutoImplicit true
set_option linter.all false
set_option maxRecDepth 100000
set_option maxHeartbeats 4000000
namespace Go.Sx
open Go Go.Proofs
def EB (et:Int) (r:Int):Int:=arStd .add .i64 et r
def yS (b:Nat):SV:=.fn (.func 231) [.ptr 0 b 0] []
def nZ:SV:=.fn (.func 229) [] []
def foll (x:RF) (t v ld rt nx:Int) (wb ob:Nat):RF:={x with term:=t,vote:=v,lead:=ld,rt:=rt,wb:=wb,ob:=ob,nx:=nx}
theorem CX {x:RF} {lf:Bool} {o:LL} {tkv st:SV} {V L:List Int} {P':MQ} {s:STO} {g:LGF} {h1 h2:Value} {zn zb zo zl zc:Nat} {spz:Bool} {Z:List Int} {ro:Int} {w1 w2 w3:Value} {t v ld rt2 nx2:Int} {C5:C} {K:SV→List C→Prop} (hT:TrkOK V L P') (hVL:V.length+L.length≤13)
  (hs0:0≤s.i0) (hs1:s.i0≤1099511627776) (hsn1:1≤s.n) (hsn2:s.n≤100000) (hv:v=if x.term=t then x.vote else 0) (hnx:0≤x.nx) (hnx2:x.nx<1099511627776) (hzl:zl≤1000) (hrt:rt2=EB x.et (rndP (Z,zl,x.nx,x.et))) (hnx3:nx2=nxP (zl,x.nx)) (het:0<x.et) (het2:x.et≤1000)
  (hKK:∀(P2:MQ) (d2:Int) (wb ob ab:Nat),TrkOK V L P2→K (.tup []) [DT (foll x t v ld rt2 nx2 wb ob) (rV (foll x t v ld rt2 nx2 wb ob) o) lf (yS x.b) nZ (.sl 7 zn zb zo zl zc),.prd (.mp x.vb (.set V) none),.prd (.mp x.pb (.ptrs 410 P2) none),BT o,oO x.lb 8 s.b g.r,.prd (.h (dL wb)),.raw true ob 398 [.i .i64 ro,.hv 10 (.map (some ab)),.v (.slice none 0 0),.i .u64 0],.prd (.sl spz zn zb zo zc (.ul 3 .i64 zl Z)),STO.raw {s with hs:=.v h1,sn:=.v h2,c2:=d2} 9,s.row,.prd (.h (dL ab))]) (F:HProp):
  inS Tryz.prog F 177 [.ptr 0 x.b 0,.i .u64 t,.i .u64 ld]
   [DT x (rV x o) lf tkv st (.sl 7 zn zb zo zl zc),.prd (.mp x.vb (.set V) none),.prd (.mp x.pb (.ptrs 410 P') none),BT o,oO x.lb 8 s.b g.r,C5,.raw true x.ob 398 [.i .i64 ro,.v w1,.v w2,.v w3],.prd (.sl spz zn zb zo zc (.ul 3 .i64 zl Z)),STO.raw {s with hs:=.v h1,sn:=.v h2} 9,s.row] K:=by
 obtain⟨b,id,term,vote,lb,ms,vb,pb,wb,mi,lead,cq,pv,ht,et,rt,nf,sd,ob,nx⟩:=x;obtain⟨g1,g2,g3,g4,g5,g6,g7⟩:=g;obtain⟨sb,hs,sn',nn,eb,off,cap,n,k0,k1,k2,k3,k4,k5,sp,t0,i0,f3,f4,es⟩:=s;change 0≤i0 at hs0;change i0≤1099511627776 at hs1;change 1≤n at hsn1;change n≤100000 at hsn2;change 0≤nx at hnx;change nx<1099511627776 at hnx2;change 0<et at het;change et≤1000 at het2;change v=if term=t then vote else 0 at hv
 refine aF ⟨false,false⟩ (fun TX=>[r345 TX,r222]) (fun _=>(.cons x345 (.cons x222 .nil))) Tryz.func177 Tryz.ntmps177 rfl rfl ?_;intros;rename_i TX hTX _ _ AR hA CM hC _ _ _ _ _ _ hU hI hL _ hN hsat hP;obtain⟨tz,tls,tt,to,apx⟩:=TX;have hap:∀{α β:Type} (f:α→β) (x:α),apx f x=f x:=fun f x=>congrArg (fun t:TF=>t.ap f x) hTX;have o1:ORnd Z zl nx et (apx rndP (Z,zl,nx,et)) (apx nxP (zl,nx)):=⟨hnx,by omega,hzl,het,het2,by rw[hap],by rw[hap]⟩;change rt2=EB et (rndP (Z,zl,nx,et)) at hrt;change nx2=nxP (zl,nx) at hnx3;have eA:AR .add .i64 et (apx rndP (Z,zl,nx,et))=rt2:=by rw[hA,hap,hrt];rfl
 have eR:apx nxP (zl,nx)=nx2:=by rw[hap,hnx3]
 cbv;repeat' first|exact O5|intro β;cbv|apply O4|apply o1;done
 refine inl @hI Tryz.func230 Tryz.ntmps230 rfl rfl ?_;cbv;repeat' first|exact O5|intro β;cbv|apply O4|apply o1;done
 rcases hc:CM .ne term t with _|_
 ·have hvv:v=vote:=by rw[hC] at hc;simp[cmStd] at hc;rw[hv,if_pos hc]
  have htt:t=term:=by rw[hC] at hc;simp[cmStd] at hc;exact hc.symm
  subst htt;subst hvv;rcases o with _|⟨cl,ll⟩
  ·
   cbv;repeat' first|exact O5|intro β;cbv|apply O4|apply o1;done
   repeat (first|(refine inl @hI Tryz.func290 Tryz.ntmps290 rfl rfl ?_;cbv;repeat' first|exact O5|intro β;cbv|apply O4|apply o1;done)|(refine inl @hI Tryz.func286 Tryz.ntmps286 rfl rfl ?_;cbv;repeat' first|exact O5|intro β;cbv|apply O4|apply o1;done)|(refine inl @hI Tryz.func291 Tryz.ntmps291 rfl rfl ?_;cbv;repeat' first|exact O5|intro β;cbv|apply O4|apply o1;done))
   rename_i wbn;have hk:=fun P2 d2 ob' ab' hTT=>hKK P2 d2 wbn ob' ab' hTT;refine aD hN [0,1,2,3,4,18,6,7,8,9,10] (by decide) rfl ?_ ?_ (yO (lf:=lf) (lv:=EX 3 none) (tkv:=tkv) (st:=nZ) (zz:=.sl 7 zn zb zo zl zc) (lo:=0) (off:=0) (r:=LGF.r ⟨g1,g2,g3,g4,g5,g6,g7⟩) (rb:=?rb0) (C1:=?a1) (C3:=?a3) (C5:=?a5) (C6:=?a6) (C7:=?a7) (x:=⟨b,id,t,v,lb,ms,vb,pb,wbn,mi,0,cq,pv,ht,et,AR .add .i64 et (apx rndP (Z,zl,nx,et)),nf,sd,ob,apx nxP (zl,nx)⟩) (V:=V) (L:=L) (P':=P') (s:=⟨sb,.v h1,.v h2,nn,eb,off,cap,n,k0,k1,k2,k3,k4,k5,sp,t0,i0,f3,f4,es⟩) hT hVL hs0 hs1 hsn1 hsn2 ?_)
   ·rfl
   ·refine⟨?_,?_,?_,?_,?_,?_,?_,?_,?_,?_,?_,trivial⟩
    ·exact⟨rfl,rfl,rfl,rfl⟩
    all_goals first|exact aT _|exact rfl|exact⟨rfl,rfl,rfl,rfl⟩
   intro P2 d2 hT2;have hk2:=fun ob' ab'=>hk P2 d2 ob' ab' hT2;clear hk;cbv;repeat' first|exact O5|intro β;cbv|apply O4|apply o1;done
   simp only[eA,eR];refine hP [(0,0),(1,0),(2,0),(3,0),(4,0),(18,0),(25,0),(7,0),(8,0),(9,0),(26,0)] _ _ _ _ ?_ rfl ?_ (hk2 (β 8 0) (β 8 1))
   ·rfl
   ·exact aP
  ·
   cbv;repeat' first|exact O5|intro β;cbv|apply O4|apply o1;done
   repeat (first|(refine inl @hI Tryz.func290 Tryz.ntmps290 rfl rfl ?_;cbv;repeat' first|exact O5|intro β;cbv|apply O4|apply o1;done)|(refine inl @hI Tryz.func286 Tryz.ntmps286 rfl rfl ?_;cbv;repeat' first|exact O5|intro β;cbv|apply O4|apply o1;done)|(refine inl @hI Tryz.func291 Tryz.ntmps291 rfl rfl ?_;cbv;repeat' first|exact O5|intro β;cbv|apply O4|apply o1;done))
   rename_i wbn;have hk:=fun P2 d2 ob' ab' hTT=>hKK P2 d2 wbn ob' ab' hTT;refine aD hN [0,1,2,3,4,18,6,7,8,9,10] (by decide) rfl ?_ ?_ (yO (lf:=lf) (lv:=EX 3 (some (cl,ll))) (tkv:=tkv) (st:=nZ) (zz:=.sl 7 zn zb zo zl zc) (lo:=0) (off:=0) (r:=LGF.r ⟨g1,g2,g3,g4,g5,g6,g7⟩) (rb:=?rb0) (C1:=?c1) (C3:=?c3) (C5:=?c5) (C6:=?c6) (C7:=?c7) (x:=⟨b,id,t,v,lb,ms,vb,pb,wbn,mi,0,cq,pv,ht,et,AR .add .i64 et (apx rndP (Z,zl,nx,et)),nf,sd,ob,apx nxP (zl,nx)⟩) (V:=V) (L:=L) (P':=P') (s:=⟨sb,.v h1,.v h2,nn,eb,off,cap,n,k0,k1,k2,k3,k4,k5,sp,t0,i0,f3,f4,es⟩) hT hVL hs0 hs1 hsn1 hsn2 ?_)
   ·rfl
   ·refine⟨?_,?_,?_,?_,?_,?_,?_,?_,?_,?_,?_,trivial⟩
    ·exact⟨rfl,rfl,rfl,rfl⟩
    all_goals first|exact aT _|exact rfl|exact⟨rfl,rfl,rfl,rfl⟩
   intro P2 d2 hT2;have hk2:=fun ob' ab'=>hk P2 d2 ob' ab' hT2;clear hk;cbv;repeat' first|exact O5|intro β;cbv|apply O4|apply o1;done
   simp only[eA,eR];refine hP [(0,0),(1,0),(2,0),(3,0),(4,0),(18,0),(25,0),(7,0),(8,0),(9,0),(26,0)] _ _ _ _ ?_ rfl ?_ (hk2 (β 8 0) (β 8 1))
   ·rfl
   ·exact aP
 ·have hvv:v=0:=by rw[hC] at hc;simp[cmStd] at hc;rw[hv,if_neg hc]
  subst hvv;rcases o with _|⟨cl,ll⟩
  ·
   cbv;repeat' first|exact O5|intro β;cbv|apply O4|apply o1;done
   repeat (first|(refine inl @hI Tryz.func290 Tryz.ntmps290 rfl rfl ?_;cbv;repeat' first|exact O5|intro β;cbv|apply O4|apply o1;done)|(refine inl @hI Tryz.func286 Tryz.ntmps286 rfl rfl ?_;cbv;repeat' first|exact O5|intro β;cbv|apply O4|apply o1;done)|(refine inl @hI Tryz.func291 Tryz.ntmps291 rfl rfl ?_;cbv;repeat' first|exact O5|intro β;cbv|apply O4|apply o1;done))
   rename_i wbn;have hk:=fun P2 d2 ob' ab' hTT=>hKK P2 d2 wbn ob' ab' hTT;refine aD hN [0,1,2,3,4,20,6,7,8,9,10] (by decide) rfl ?_ ?_ (yO (lf:=lf) (lv:=EX 3 none) (tkv:=tkv) (st:=nZ) (zz:=.sl 7 zn zb zo zl zc) (lo:=0) (off:=0) (r:=LGF.r ⟨g1,g2,g3,g4,g5,g6,g7⟩) (rb:=?rb0) (C1:=?b1) (C3:=?b3) (C5:=?b5) (C6:=?b6) (C7:=?b7) (x:=⟨b,id,t,0,lb,ms,vb,pb,wbn,mi,0,cq,pv,ht,et,AR .add .i64 et (apx rndP (Z,zl,nx,et)),nf,sd,ob,apx nxP (zl,nx)⟩) (V:=V) (L:=L) (P':=P') (s:=⟨sb,.v h1,.v h2,nn,eb,off,cap,n,k0,k1,k2,k3,k4,k5,sp,t0,i0,f3,f4,es⟩) hT hVL hs0 hs1 hsn1 hsn2 ?_)
   ·rfl
   ·refine⟨?_,?_,?_,?_,?_,?_,?_,?_,?_,?_,?_,trivial⟩
    ·exact⟨rfl,rfl,rfl,rfl⟩
    all_goals first|exact aT _|exact rfl|exact⟨rfl,rfl,rfl,rfl⟩
   intro P2 d2 hT2;have hk2:=fun ob' ab'=>hk P2 d2 ob' ab' hT2;clear hk;cbv;repeat' first|exact O5|intro β;cbv|apply O4|apply o1;done
   simp only[eA,eR];refine hP [(0,0),(1,0),(2,0),(3,0),(4,0),(20,0),(27,0),(7,0),(8,0),(9,0),(28,0)] _ _ _ _ ?_ rfl ?_ (hk2 (β 8 0) (β 8 1))
   ·rfl
   ·exact aP
  ·
   cbv;repeat' first|exact O5|intro β;cbv|apply O4|apply o1;done
   repeat (first|(refine inl @hI Tryz.func290 Tryz.ntmps290 rfl rfl ?_;cbv;repeat' first|exact O5|intro β;cbv|apply O4|apply o1;done)|(refine inl @hI Tryz.func286 Tryz.ntmps286 rfl rfl ?_;cbv;repeat' first|exact O5|intro β;cbv|apply O4|apply o1;done)|(refine inl @hI Tryz.func291 Tryz.ntmps291 rfl rfl ?_;cbv;repeat' first|exact O5|intro β;cbv|apply O4|apply o1;done))
   rename_i wbn;have hk:=fun P2 d2 ob' ab' hTT=>hKK P2 d2 wbn ob' ab' hTT;refine aD hN [0,1,2,3,4,20,6,7,8,9,10] (by decide) rfl ?_ ?_ (yO (lf:=lf) (lv:=EX 3 (some (cl,ll))) (tkv:=tkv) (st:=nZ) (zz:=.sl 7 zn zb zo zl zc) (lo:=0) (off:=0) (r:=LGF.r ⟨g1,g2,g3,g4,g5,g6,g7⟩) (rb:=?rb0) (C1:=?d1) (C3:=?d3) (C5:=?d5) (C6:=?d6) (C7:=?d7) (x:=⟨b,id,t,0,lb,ms,vb,pb,wbn,mi,0,cq,pv,ht,et,AR .add .i64 et (apx rndP (Z,zl,nx,et)),nf,sd,ob,apx nxP (zl,nx)⟩) (V:=V) (L:=L) (P':=P') (s:=⟨sb,.v h1,.v h2,nn,eb,off,cap,n,k0,k1,k2,k3,k4,k5,sp,t0,i0,f3,f4,es⟩) hT hVL hs0 hs1 hsn1 hsn2 ?_)
   ·rfl
   ·refine⟨?_,?_,?_,?_,?_,?_,?_,?_,?_,?_,?_,trivial⟩
    ·exact⟨rfl,rfl,rfl,rfl⟩
    all_goals first|exact aT _|exact rfl|exact⟨rfl,rfl,rfl,rfl⟩
   intro P2 d2 hT2;have hk2:=fun ob' ab'=>hk P2 d2 ob' ab' hT2;clear hk;cbv;repeat' first|exact O5|intro β;cbv|apply O4|apply o1;done
   simp only[eA,eR];refine hP [(0,0),(1,0),(2,0),(3,0),(4,0),(20,0),(27,0),(7,0),(8,0),(9,0),(28,0)] _ _ _ _ ?_ rfl ?_ (hk2 (β 8 0) (β 8 1))
   ·rfl
   ·exact aP
end Go.Sx
