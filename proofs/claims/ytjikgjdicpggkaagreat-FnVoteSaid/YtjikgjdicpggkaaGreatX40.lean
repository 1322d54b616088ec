import Derived.Test.YtjikgjdicpggkaaGreatX39
set_option autoImplicit true
set_option relaxedAutoImplicit true
set_option linter.all false
set_option maxRecDepth 100000
set_option maxHeartbeats 4000000
namespace Go.Sx
open Go Go.Proofs
theorem J9 {x:RQ} {g:LGF} {s:STO} {r:RN} {h1 h2 cf:Value} {W:Nat→Value} {mn mb mo mc m nb lm:Nat} {le:List EN} {el:List FV} {rl:List FV} {fa fb fc:FV} {kk to fr am:Int} {otm olt oix ocm orh:Option Int} {orj:Option Bool} {mdn:Nat} {mdd:Option (List UInt8)} {mt:ByteArray} {K:SV→List C→Prop} (htm:1≤x.tm) (hpz:g.pz=false) (hai:0≤g.ai) (hco:g.co≤4398046511104)
  (h0:0≤s.i0) (hi:s.i0≤1099511627776) (hes:s.es=entPs le) (hlm:le.length=lm) (hn:s.n=1+lm) (hek:∀e∈le,e.k=0) (hlm2:lm≤100) (hens:EnsOK (entPs le) lm) (hel:el=entR le)
  (hk0:0≤kk) (hk1:kk≤100) (hmt:mt=tfStd.t mdd)
  (hld:r.sl=x.ld) (hst:r.ss=x.st) (hce:g.co=g.ai)
  (hto:to≠x.id)
  (hK0:aV x g r=true→∀(w23 w24 w25 w26 w28:Value) (sn2 sb2 so2 sc2 ln2 lb2 lo2 lc2:Nat) (d1 d2 d3:Int),bK w23→bK w24→bK w25→bK w26→bK w28→K (SR.g (SR.mk false 0 0 0 (mustP ((x.tm,x.vo),r.ht,r.hv))) w23 w24 w25 w26 w28 (.sl 8 sn2 sb2 so2 1 sc2) (.sl 9 ln2 lb2 lo2 lm lc2)) (aY x (.v (.slice none 0 0)) (.v (.slice none 0 0)) g {s with hs:=.v h1,sn:=.v h2,c1:=d1,c2:=d2,c3:=d3}++(RN.mk r.b r.sb r.hb r.sl r.ss r.ht r.hv r.hc).cs x.b (.v (.slice none 0 0))++[eP nb W 4 2 r.b s.b am cf]++[.prd (.sl true sn2 sb2 so2 sc2 (.sl 38 21 1 (((MG.mk kk (some to) (some fr) otm olt oix ocm orj orh mdn mdd)).r mt))),.prd (.sl true ln2 lb2 lo2 lc2 (.sl 81 4 lm el))]))
  (hK1:aV x g r=false→∀(w23 w24 w25 w26 w28:Value) (sn2 sb2 so2 sc2 ln2 lb2 lo2 lc2 nhb:Nat) (d1 d2 d3:Int),bK w23→bK w24→bK w25→bK w26→bK w28→K (SR.g (SR.mk true x.tm x.vo g.co (mustP ((x.tm,x.vo),r.ht,r.hv))) w23 w24 w25 w26 w28 (.sl 8 sn2 sb2 so2 1 sc2) (.sl 9 ln2 lb2 lo2 lm lc2)) (aY x (.v (.slice none 0 0)) (.v (.slice none 0 0)) g {s with hs:=.v (.pointer (some ⟨nhb,0,none⟩)),sn:=.v h2,c1:=d1,c2:=d2,c3:=d3}++(RN.mk r.b r.sb nhb r.sl r.ss x.tm x.vo g.co).cs x.b (.v (.slice none 0 0))++[eP nb W 4 2 r.b s.b am cf]++[.prd (.sl true sn2 sb2 so2 sc2 (.sl 38 21 1 (((MG.mk kk (some to) (some fr) otm olt oix ocm orj orh mdn mdd)).r mt))),.prd (.sl true ln2 lb2 lo2 lc2 (.sl 81 4 lm el))])) (F:HProp):
  inS Tryz.prog F 101 [.ptr 7 nb 0] (aY x (.v (.slice none 0 0)) (.sl 8 mn mb mo 1 mc) g {s with hs:=.v h1,sn:=.v h2}++r.cs x.b (.v (.slice none 0 0))++[eP nb W 4 2 r.b s.b am cf]++[.prd (.sl true mn mb mo mc (.sl 176 1 1 [(MG.mk kk (some to) (some fr) otm olt oix ocm orj orh mdn mdd).f]))]) K:=by
 obtain⟨b,lb,id,tm,vo,st,ld,tg,pn,un,Y⟩:=x;obtain⟨off,co,ai,ad,mx,sz,pz⟩:=g;obtain⟨sb,hs,sn',nn,eb,ro,cap,n,k0,k1,k2,k3,k4,k5,sp,t0,i0,f3,f4,es⟩:=s;obtain⟨rb,ssb,hb,sl,ss,ht,hv,hc⟩:=r;change 1≤tm at htm;have hai2:ai≤co:=by have:co=ai:=hce;omega
 have hA0:=fun(K':SV→List C→Prop) F' u=>LH (x:=⟨b,lb,id,tm,vo,st,ld,tg,pn,un,Y⟩) (g:=⟨off,co,ai,ad,mx,sz,pz⟩) (s:=⟨sb,hs,sn',nn,eb,ro,cap,n,k0,k1,k2,k3,k4,k5,sp,t0,i0,f3,f4,es⟩) (r:=⟨rb,ssb,hb,sl,ss,ht,hv,hc⟩) (sa:=.v (.slice none 0 0)) (h1:=h1) (h2:=h2) (mn:=mn) (mb:=mb) (mo:=mo) (mc:=mc) (mf:=(MG.mk kk (some to) (some fr) otm olt oix ocm orj orh mdn mdd).f) (K:=K') htm hpz hai hai2 hco u F';have hA1:=fun(K':SV→List C→Prop) F' u0 u1=>IX (x:=⟨b,lb,id,tm,vo,st,ld,tg,pn,un,Y⟩) (g:=⟨off,co,ai,ad,mx,sz,pz⟩) (s:=⟨sb,hs,sn',nn,eb,ro,cap,n,k0,k1,k2,k3,k4,k5,sp,t0,i0,f3,f4,es⟩) (r:=⟨rb,ssb,hb,sl,ss,ht,hv,hc⟩) (h1:=h1) (h2:=h2) (mn:=mn) (mb:=mb) (mo:=mo) (mc:=mc) (m:=0) (rl:=[]) (fa:=.np) (fb:=.np) (fc:=.np) (q0:=.oi 266 .i32 (some kk)) (to:=to) (q2:=.oi 22 .u64 (some fr)) (q3:=.oi 22 .u64 otm) (q4:=.oi 22 .u64 olt) (q5:=.oi 22 .u64 oix) (q6:=.sl 209 1 0 []) (q7:=.oi 22 .u64 ocm) (q8:=.oi 22 .u64 none) (q9:=.np) (q10:=.ob 4 orj) (q11:=.oi 22 .u64 orh) (q12:=.bys 5 mdn mdd) (q13:=.sl 176 1 0 []) (K:=K') htm hpz hai hco hld hst hce hto u0 u1 F';have hA2:=fun d1 d2 d3 w0 w5 w6 sy (K':SV→List C→Prop) F' u=>vS (s:=⟨sb,hs,sn',nn,eb,ro,cap,n,k0,d1,d2,d3,k4,k5,sp,t0,i0,f3,f4,es⟩) (h1:=h1) (h2:=h2) (w0:=w0) (w5:=w5) (w6:=w6) (sy:=sy) (K:=K') u F';have hA2c:=fun d1 d2 d3 w0 w5 w6 sy nhb (K':SV→List C→Prop) F' u=>uW (s:=⟨sb,hs,sn',nn,eb,ro,cap,n,k0,d1,d2,d3,k4,k5,sp,t0,i0,f3,f4,es⟩) (h1:=h1) (h2:=h2) (w0:=w0) (w5:=w5) (w6:=w6) (sy:=sy) (nhb:=nhb) (tm:=tm) (vo:=vo) (co:=co) (K:=K') htm u F';have hA4:=fun d1 d2 d3 h1 (K':SV→List C→Prop) F' u=>B5 (s:=⟨sb,hs,sn',nn,eb,ro,cap,n,k0,d1,d2,d3,k4,k5,sp,t0,i0,f3,f4,es⟩) (h1:=h1) (h2:=h2) (es:=le) (m:=lm) (K:=K') h0 hi hes hlm hn hek hlm2 hens hel u F';have hA30:=fun d1 d2 d3 (nsb nhb:Nat) h1 w0 w1 w2 w3 w4 w5 w6 sy (K':SV→List C→Prop) F' u=>yI (x:=⟨b,lb,id,tm,vo,st,ld,tg,pn,un,Y⟩) (g:=⟨off,co,ai,ad,mx,sz,pz⟩) (s:=⟨sb,hs,sn',nn,eb,ro,cap,n,k0,d1,d2,d3,k4,k5,sp,t0,i0,f3,f4,es⟩) (r:=⟨rb,ssb,hb,sl,ss,ht,hv,hc⟩) (h1:=h1) (h2:=h2) (w0:=w0) (w1:=w1) (w2:=w2) (w3:=w3) (w4:=w4) (w5:=w5) (w6:=w6) (sy:=sy) (K:=K') u F';have hA31:=fun d1 d2 d3 (nsb nhb:Nat) h1 w0 w1 w2 w3 w4 w5 w6 sy (K':SV→List C→Prop) F' u=>yI (x:=⟨b,lb,id,tm,vo,st,ld,tg,pn,un,Y⟩) (g:=⟨off,co,ai,ad,mx,sz,pz⟩) (s:=⟨sb,hs,sn',nn,eb,ro,cap,n,k0,d1,d2,d3,k4,k5,sp,t0,i0,f3,f4,es⟩) (r:=⟨rb,ssb,nhb,sl,ss,tm,vo,co⟩) (h1:=h1) (h2:=h2) (w0:=w0) (w1:=w1) (w2:=w2) (w3:=w3) (w4:=w4) (w5:=w5) (w6:=w6) (sy:=sy) (K:=K') u F';refine aF ⟨false,false⟩ (fun TX=>[r93,fH,fL,fQ,wA TX,sG,BR TX]) (fun _=>(.cons x93 (.cons fG (.cons fE (.cons fP (.cons wY (.cons sC (.cons CI .nil)))))))) Tryz.func101 Tryz.ntmps101 rfl rfl ?_;intros;rename_i TX hTX _ _ _ _ CM _ _ _ _ _ _ _ hU hI _ _ hN _ hP;obtain⟨tz,tls,tt,to0,apx⟩:=TX;have hap:∀{α β:Type} (f:α→β) (x:α),apx f x=f x:=fun f x=>congrArg (fun t:TF=>t.ap f x) hTX;have ett:tt mdd=mt:=by rw[hmt];exact congrArg (fun t:TF=>t.t mdd) hTX
 have o151:DU (MG.mk kk (some to) (some fr) otm olt oix ocm orj orh mdn mdd) (tt mdd):=⟨hk0,hk1,congrArg (fun t:TF=>t.t mdd) hTX⟩;have z0:CM .eq tm 0=false:=O6;have z2:CM .lt 0 0=false:=O6;have z8:CM .eq 0 0=true:=O6;cbv;repeat' first|exact O5|intro β;cbv|apply O4|apply o151;done
 refine aD hN [0,1,2,3,4,5,6,8] (by decide) rfl ?_ ?_ (fun F1=>hA0 _ F1 ?_)
 ·rfl
 ·exact⟨⟨rfl,rfl,rfl,rfl⟩,⟨rfl,rfl,rfl,rfl⟩,⟨rfl,rfl,rfl,rfl⟩,rfl,⟨rfl,rfl,rfl,rfl⟩,⟨rfl,rfl,rfl,rfl⟩,rfl,rfl,trivial⟩
 intro v hvv;obtain rfl:v=true:=by rw[hvv];simp
 cbv;repeat' first|exact O5|intro β;cbv|apply O4|apply o151;done
 refine aD hN [0,1,2,3,4,5,6,8] (by decide) rfl ?_ ?_ (fun F2=>hA1 _ F2 ?_ ?_)
 ·rfl
 ·exact⟨⟨rfl,rfl,rfl,rfl⟩,⟨rfl,rfl,rfl,rfl⟩,⟨rfl,rfl,rfl,rfl⟩,rfl,⟨rfl,rfl,rfl,rfl⟩,⟨rfl,rfl,rfl,rfl⟩,rfl,rfl,trivial⟩
 ·intro hhb nn2 nb2 no2 nc2;have hk:=hK0 hhb;clear hA0 hA1 hK0 hK1;cbv;repeat' first|exact O5|intro β;cbv|apply O4|apply o151;done
  refine hU 1 (by decide+kernel) ?_;cbv;repeat' first|exact O5|intro β;cbv|apply O4|apply o151;done
  repeat (any_goals (simp only[z2];try (cbv;repeat' first|exact O5|intro β;cbv|apply O4|apply o151;done)))
  repeat (first|(refine inl @hI Tryz.func152 Tryz.ntmps152 rfl rfl ?_;cbv;repeat' first|exact O5|intro β;cbv|apply O4|apply o151;done)|(refine inl @hI Tryz.func207 Tryz.ntmps207 rfl rfl ?_;cbv;repeat' first|exact O5|intro β;cbv|apply O4|apply o151;done)|(refine inl @hI Tryz.func196 Tryz.ntmps196 rfl rfl ?_;cbv;repeat' first|exact O5|intro β;cbv|apply O4|apply o151;done))
  repeat (any_goals (simp only[z0,z8];try (cbv;repeat' first|exact O5|intro β;cbv|apply O4|apply o151;done)))
  have hB:=fun K' F' u=>hA2 k1 k2 k3 (.pointer none) (.slice none 0 0) (.slice (slA nn2 nb2 no2) 1 nc2) (mustP ((tm,vo),ht,hv)) K' F' u;refine aD hN [2,3] (by decide) rfl ?_ ?_ (fun F11=>hB _ F11 ?_)
  ·rfl
  ·exact⟨⟨rfl,rfl,rfl,rfl⟩,rfl,trivial⟩
  clear hB;cbv;repeat' first|exact O5|intro β;cbv|apply O4|apply o151;done
  repeat (first|(refine inl @hI Tryz.func154 Tryz.ntmps154 rfl rfl ?_;cbv;repeat' first|exact O5|intro β;cbv|apply O4|apply o151;done)|(refine inl @hI Tryz.func120 Tryz.ntmps120 rfl rfl ?_;cbv;repeat' first|exact O5|intro β;cbv|apply O4|apply o151;done)|(refine inl @hI Tryz.func121 Tryz.ntmps121 rfl rfl ?_;cbv;repeat' first|exact O5|intro β;cbv|apply O4|apply o151;done))
  repeat (any_goals (simp only[z0,z8];try (cbv;repeat' first|exact O5|intro β;cbv|apply O4|apply o151;done)))
  refine hU 1 (by decide+kernel) ?_;cbv;repeat' first|exact O5|intro β;cbv|apply O4|apply o151;done
  repeat (any_goals (simp only[z2];try (cbv;repeat' first|exact O5|intro β;cbv|apply O4|apply o151;done)))
  have hB:=fun K' F' u=>hA30 k1 k2 k3 0 0 h1 (.pointer none) (.pointer none) (.slice none 0 0) (.slice none 0 0) (.pointer none) (.slice none 0 0) (.slice (slA nn2 nb2 no2) 1 nc2) (mustP ((tm,vo),ht,hv)) K' F' u;refine aD hN [0,1,2,3,4,5,6] (by decide) rfl ?_ ?_ (fun F12=>hB _ F12 ?_)
  ·rfl
  ·exact⟨⟨rfl,rfl,rfl,rfl⟩,⟨rfl,rfl,rfl,rfl⟩,⟨rfl,rfl,rfl,rfl⟩,rfl,⟨rfl,rfl,rfl,rfl⟩,⟨rfl,rfl,rfl,rfl⟩,rfl,trivial⟩
  clear hB;cbv;repeat' first|exact O5|intro β;cbv|apply O4|apply o151;done
  have hB:=fun K' F' u=>hA4 k1 k2 k3 h1 K' F' u;refine aD hN [2,3] (by decide) rfl ?_ ?_ (fun F13=>hB _ F13 ?_)
  ·rfl
  ·exact⟨⟨rfl,rfl,rfl,rfl⟩,rfl,trivial⟩
  intro d1 d2 d3 ln2 lb2 lo2 lc2;cbv;repeat' first|exact O5|intro β;cbv|apply O4|apply o151;done
  simp only[ett];refine hP [(0,0),(1,0),(2,0),(3,0),(4,0),(5,0),(6,0),(7,0),(24,0),(33,0)] _ _ _ _ ?_ rfl ?_ (hk ?W00 ?W01 ?W02 ?W03 ?W04 ?S00 ?S01 ?S02 ?S03 ln2 lb2 lo2 lc2 d1 d2 d3 ?J00 ?J01 ?J02 ?J03 ?J04)
  ·rfl
  ·exact(by cbv;repeat' first|exact lg|apply O4|exact rfl|(simp;done))
  all_goals first|exact⟨_,_,_,_,_,rfl⟩|exact⟨0,0,0,0,0,rfl⟩
 ·intro hhb nn2 nb2 no2 nc2 nhb;have hk:=hK1 hhb;clear hA0 hA1 hK0 hK1;cbv;repeat' first|exact O5|intro β;cbv|apply O4|apply o151;done
  refine hU 1 (by decide+kernel) ?_;cbv;repeat' first|exact O5|intro β;cbv|apply O4|apply o151;done
  repeat (any_goals (simp only[z2];try (cbv;repeat' first|exact O5|intro β;cbv|apply O4|apply o151;done)))
  repeat (first|(refine inl @hI Tryz.func152 Tryz.ntmps152 rfl rfl ?_;cbv;repeat' first|exact O5|intro β;cbv|apply O4|apply o151;done)|(refine inl @hI Tryz.func207 Tryz.ntmps207 rfl rfl ?_;cbv;repeat' first|exact O5|intro β;cbv|apply O4|apply o151;done)|(refine inl @hI Tryz.func196 Tryz.ntmps196 rfl rfl ?_;cbv;repeat' first|exact O5|intro β;cbv|apply O4|apply o151;done))
  repeat (any_goals (simp only[z0,z8];try (cbv;repeat' first|exact O5|intro β;cbv|apply O4|apply o151;done)))
  have hB:=fun K' F' u=>hA2c k1 k2 k3 (.pointer none) (.slice none 0 0) (.slice (slA nn2 nb2 no2) 1 nc2) (mustP ((tm,vo),ht,hv)) nhb K' F' u;refine aD hN [2,3,6] (by decide) rfl ?_ ?_ (fun F11=>hB _ F11 ?_)
  ·rfl
  ·exact⟨⟨rfl,rfl,rfl,rfl⟩,rfl,rfl,trivial⟩
  clear hB;cbv;repeat' first|exact O5|intro β;cbv|apply O4|apply o151;done
  repeat (first|(refine inl @hI Tryz.func154 Tryz.ntmps154 rfl rfl ?_;cbv;repeat' first|exact O5|intro β;cbv|apply O4|apply o151;done)|(refine inl @hI Tryz.func120 Tryz.ntmps120 rfl rfl ?_;cbv;repeat' first|exact O5|intro β;cbv|apply O4|apply o151;done)|(refine inl @hI Tryz.func121 Tryz.ntmps121 rfl rfl ?_;cbv;repeat' first|exact O5|intro β;cbv|apply O4|apply o151;done))
  repeat (any_goals (simp only[z0,z8];try (cbv;repeat' first|exact O5|intro β;cbv|apply O4|apply o151;done)))
  refine hU 1 (by decide+kernel) ?_;cbv;repeat' first|exact O5|intro β;cbv|apply O4|apply o151;done
  repeat (any_goals (simp only[z2];try (cbv;repeat' first|exact O5|intro β;cbv|apply O4|apply o151;done)))
  have hB:=fun K' F' u=>hA31 k1 k2 k3 0 nhb (.pointer (some ⟨nhb,0,none⟩)) (.pointer none) (.pointer (some ⟨nhb,0,none⟩)) (.slice none 0 0) (.slice none 0 0) (.pointer none) (.slice none 0 0) (.slice (slA nn2 nb2 no2) 1 nc2) (mustP ((tm,vo),ht,hv)) K' F' u;refine aD hN [0,1,2,3,4,5,6] (by decide) rfl ?_ ?_ (fun F12=>hB _ F12 ?_)
  ·rfl
  ·exact⟨⟨rfl,rfl,rfl,rfl⟩,⟨rfl,rfl,rfl,rfl⟩,⟨rfl,rfl,rfl,rfl⟩,rfl,⟨rfl,rfl,rfl,rfl⟩,⟨rfl,rfl,rfl,rfl⟩,rfl,trivial⟩
  clear hB;cbv;repeat' first|exact O5|intro β;cbv|apply O4|apply o151;done
  have hB:=fun K' F' u=>hA4 k1 k2 k3 (.pointer (some ⟨nhb,0,none⟩)) K' F' u;refine aD hN [2,3] (by decide) rfl ?_ ?_ (fun F13=>hB _ F13 ?_)
  ·rfl
  ·exact⟨⟨rfl,rfl,rfl,rfl⟩,rfl,trivial⟩
  intro d1 d2 d3 ln2 lb2 lo2 lc2;cbv;repeat' first|exact O5|intro β;cbv|apply O4|apply o151;done
  simp only[ett];refine hP [(0,0),(1,0),(2,0),(3,0),(4,0),(5,0),(6,0),(7,0),(24,0),(35,0)] _ _ _ _ ?_ rfl ?_ (hk ?W10 ?W11 ?W12 ?W13 ?W14 ?S10 ?S11 ?S12 ?S13 ln2 lb2 lo2 lc2 nhb d1 d2 d3 ?J10 ?J11 ?J12 ?J13 ?J14)
  ·rfl
  ·exact(by cbv;repeat' first|exact lg|apply O4|exact rfl|(simp;done))
  all_goals first|exact⟨_,_,_,_,_,rfl⟩|exact⟨0,0,0,0,0,rfl⟩
end Go.Sx
