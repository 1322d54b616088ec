import Derived.Test.YtjikgjdicpggkaaGreatX22
set_option autoImplicit true
set_option relaxedAutoImplicit true
set_option linter.all false
set_option maxRecDepth 100000
set_option maxHeartbeats 4000000
namespace Go.Sx
open Go Go.Proofs
theorem GR {x:RQ} {g:LGF} {s:STO} {r:RN} {h1 h2:Value} {mn mb mo mc m:Nat} {rl:List FV} {q0 q2 q3 q4 q5 q6 q7 q8 q9 q10 q11 q12 q13:FV} {to:Int} {K:SV→List C→Prop} (htm:1≤x.tm) (hpz:g.pz=false) (hai:0≤g.ai) (hco:g.co≤4398046511104)
  (hld:x.ld≠r.sl) (hce:g.co=g.ai)
  (hK0:aV x g r=true→∀(nsb:Nat),K (.agg [.ptr 8 nsb 0,.v (.pointer none),.v (.slice none 0 0),.v (.slice none 0 0),.v (.pointer none),.v (.slice none 0 0),.sl 7 mn mb mo 1 mc,.bl (mustP ((x.tm,x.vo),r.ht,r.hv))])
   (aY x (.sl 7 mn mb mo 1 mc) (.v (.slice none 0 0)) g {s with hs:=.v h1,sn:=.v h2}++r.cs x.b (.v (.slice none 0 0))++[.prd (.sl true mn mb mo mc (.sl 176 1 1 [.st 269 [q0,.oi 22 .u64 (some to),q2,q3,q4,q5,q6,q7,q8,q9,q10,q11,q12,q13]]))]++[.raw true nsb 166 [.i .u64 x.ld,.i .u64 x.st]]))
  (hK1:aV x g r=false→∀(nsb nhb:Nat),K (.agg [.ptr 8 nsb 0,.ptr 9 nhb 0,.v (.slice none 0 0),.v (.slice none 0 0),.v (.pointer none),.v (.slice none 0 0),.sl 7 mn mb mo 1 mc,.bl (mustP ((x.tm,x.vo),r.ht,r.hv))])
   (aY x (.sl 7 mn mb mo 1 mc) (.v (.slice none 0 0)) g {s with hs:=.v h1,sn:=.v h2}++r.cs x.b (.v (.slice none 0 0))++[.prd (.sl true mn mb mo mc (.sl 176 1 1 [.st 269 [q0,.oi 22 .u64 (some to),q2,q3,q4,q5,q6,q7,q8,q9,q10,q11,q12,q13]]))]++[.raw true nsb 166 [.i .u64 x.ld,.i .u64 x.st],.prd (.st nhb 226 (oN x.tm x.vo g.co))])) (F:HProp):
  inS Tryz.prog F 201 [.ptr 4 r.b 0] (aY x (.sl 7 mn mb mo 1 mc) (.v (.slice none 0 0)) g {s with hs:=.v h1,sn:=.v h2}++r.cs x.b (.v (.slice none 0 0))++[.prd (.sl true mn mb mo mc (.sl 176 1 1 [.st 269 [q0,.oi 22 .u64 (some to),q2,q3,q4,q5,q6,q7,q8,q9,q10,q11,q12,q13]]))]) K:=by
 obtain⟨b,lb,id,tm,vo,st,ld,tg,pn,un,Y⟩:=x;obtain⟨off,co,ai,ad,mx,sz,pz⟩:=g;obtain⟨sb,hs,sn',nn,eb,ro,cap,n,k0,k1,k2,k3,k4,k5,sp,t0,i0,f3,f4,es⟩:=s;obtain⟨rb,ssb,hb,sl,ss,ht,hv,hc⟩:=r;change 1≤tm at htm;change pz=false at hpz;change 0≤ai at hai;change co≤4398046511104 at hco;subst hpz;change ld≠sl at hld;change co=ai at hce;subst hce;refine aF ⟨false,false⟩ (fun TX=>[rE,rC,fH,fL,fQ,uZ,jD,KS,D0 TX]) (fun _=>(.cons rB (.cons rO (.cons fG (.cons fE (.cons fP (.cons uD (.cons jV (.cons K9 (.cons DC .nil)))))))))) Tryz.func201 Tryz.ntmps201 rfl rfl ?_;intros;rename_i TX hTX _ _ _ _ CM hC _ _ _ _ _ _ hU hI _ _ _ _ hP;obtain⟨tz,tls,tt,to0,apx⟩:=TX;have hap:∀{α β:Type} (f:α→β) (x:α),apx f x=f x:=fun f x=>congrArg (fun t:TF=>t.ap f x) hTX;have o246:∀t v t2 v2,zY t v t2 v2 (apx mustP ((t,v),t2,v2)):=fun t v t2 v2=>⟨hap _ _⟩;have emp:∀x,apx mustP x=mustP x:=fun x=>hap _ _;have ogn:B6 ⟨off,co,co,ad,mx,sz,false⟩:=⟨rfl,hai,Int.le_refl _,by show co<9223372036854775807;omega⟩;have z0:CM .eq tm 0=false:=O6;have z1:CM .ne 0 0=false:=O6;have z2:CM .lt 0 0=false:=O6;have z3:CM .lt 0 1=true:=O6;have z4:CM .lt 0 (Int.ofNat 1)=true:=O6;have z5:CM .lt 1 (Int.ofNat 1)=false:=O6;have z6:CM .le 0 0=true:=O6;have e1:CM .eq ld sl=false:=O6;cbv;repeat' first|exact O5|intro β;cbv|apply O4|apply o246;done|apply ogn;done
 refine inl @hI Tryz.func195 Tryz.ntmps195 rfl rfl ?_;cbv;repeat' first|exact O5|intro β;cbv|apply O4|apply o246;done|apply ogn;done
 repeat (any_goals (simp only[e1];try (cbv;repeat' first|exact O5|intro β;cbv|apply O4|apply o246;done|apply ogn;done)))
 refine inl @hI Tryz.func196 Tryz.ntmps196 rfl rfl ?_;cbv;repeat' first|exact O5|intro β;cbv|apply O4|apply o246;done|apply ogn;done
 rcases e3:CM .eq tm ht with _|_
 ·have q3:(tm==ht)=false:=by rw[hC] at e3;exact e3
  have hk:=hK1 (by simp only[aV,q3];rfl)
  repeat (any_goals (simp only[e3];try (cbv;repeat' first|exact O5|intro β;cbv|apply O4|apply o246;done|apply ogn;done)))
  repeat (first|(refine inl @hI Tryz.func197 Tryz.ntmps197 rfl rfl ?_;cbv;repeat' first|exact O5|intro β;cbv|apply O4|apply o246;done|apply ogn;done)|(refine inl @hI Tryz.func240 Tryz.ntmps240 rfl rfl ?_;cbv;repeat' first|exact O5|intro β;cbv|apply O4|apply o246;done|apply ogn;done))
  repeat (any_goals (simp only[z1];try (cbv;repeat' first|exact O5|intro β;cbv|apply O4|apply o246;done|apply ogn;done)))
  refine hU 1 (by decide+kernel) ?_;cbv;repeat' first|exact O5|intro β;cbv|apply O4|apply o246;done|apply ogn;done
  repeat (any_goals (simp only[z2];try (cbv;repeat' first|exact O5|intro β;cbv|apply O4|apply o246;done|apply ogn;done)))
  simp only[emp];refine hP [(0,0),(1,0),(2,0),(3,0),(4,0),(5,0),(6,0),(7,0),(16,0),(17,0)] _ _ _ _ ?_ rfl ?_ (hk ?Q3A0 ?Q3A1)
  ·rfl
  ·exact aP
 have q3:(tm==ht)=true:=by rw[hC] at e3;exact e3
 repeat (any_goals (simp only[e3];try (cbv;repeat' first|exact O5|intro β;cbv|apply O4|apply o246;done|apply ogn;done)))
 rcases e4:CM .eq vo hv with _|_
 ·have q4:(vo==hv)=false:=by rw[hC] at e4;exact e4
  have hk:=hK1 (by simp only[aV,q3,q4];rfl)
  repeat (any_goals (simp only[e4];try (cbv;repeat' first|exact O5|intro β;cbv|apply O4|apply o246;done|apply ogn;done)))
  repeat (first|(refine inl @hI Tryz.func197 Tryz.ntmps197 rfl rfl ?_;cbv;repeat' first|exact O5|intro β;cbv|apply O4|apply o246;done|apply ogn;done)|(refine inl @hI Tryz.func240 Tryz.ntmps240 rfl rfl ?_;cbv;repeat' first|exact O5|intro β;cbv|apply O4|apply o246;done|apply ogn;done))
  repeat (any_goals (simp only[z1];try (cbv;repeat' first|exact O5|intro β;cbv|apply O4|apply o246;done|apply ogn;done)))
  refine hU 1 (by decide+kernel) ?_;cbv;repeat' first|exact O5|intro β;cbv|apply O4|apply o246;done|apply ogn;done
  repeat (any_goals (simp only[z2];try (cbv;repeat' first|exact O5|intro β;cbv|apply O4|apply o246;done|apply ogn;done)))
  simp only[emp];refine hP [(0,0),(1,0),(2,0),(3,0),(4,0),(5,0),(6,0),(7,0),(16,0),(17,0)] _ _ _ _ ?_ rfl ?_ (hk ?Q4A0 ?Q4A1)
  ·rfl
  ·exact aP
 have q4:(vo==hv)=true:=by rw[hC] at e4;exact e4
 repeat (any_goals (simp only[e4];try (cbv;repeat' first|exact O5|intro β;cbv|apply O4|apply o246;done|apply ogn;done)))
 rcases e5:CM .eq co hc with _|_
 ·have q5:(co==hc)=false:=by rw[hC] at e5;exact e5
  have hk:=hK1 (by simp only[aV,q3,q4,q5];rfl)
  repeat (any_goals (simp only[e5];try (cbv;repeat' first|exact O5|intro β;cbv|apply O4|apply o246;done|apply ogn;done)))
  repeat (first|(refine inl @hI Tryz.func197 Tryz.ntmps197 rfl rfl ?_;cbv;repeat' first|exact O5|intro β;cbv|apply O4|apply o246;done|apply ogn;done)|(refine inl @hI Tryz.func240 Tryz.ntmps240 rfl rfl ?_;cbv;repeat' first|exact O5|intro β;cbv|apply O4|apply o246;done|apply ogn;done))
  repeat (any_goals (simp only[z1];try (cbv;repeat' first|exact O5|intro β;cbv|apply O4|apply o246;done|apply ogn;done)))
  refine hU 1 (by decide+kernel) ?_;cbv;repeat' first|exact O5|intro β;cbv|apply O4|apply o246;done|apply ogn;done
  repeat (any_goals (simp only[z2];try (cbv;repeat' first|exact O5|intro β;cbv|apply O4|apply o246;done|apply ogn;done)))
  simp only[emp];refine hP [(0,0),(1,0),(2,0),(3,0),(4,0),(5,0),(6,0),(7,0),(16,0),(17,0)] _ _ _ _ ?_ rfl ?_ (hk ?Q5A0 ?Q5A1)
  ·rfl
  ·exact aP
 have q5:(co==hc)=true:=by rw[hC] at e5;exact e5
 have hk:=hK0 (by simp only[aV,q3,q4,q5];rfl)
 repeat (any_goals (simp only[e5];try (cbv;repeat' first|exact O5|intro β;cbv|apply O4|apply o246;done|apply ogn;done)))
 repeat (first|(refine inl @hI Tryz.func197 Tryz.ntmps197 rfl rfl ?_;cbv;repeat' first|exact O5|intro β;cbv|apply O4|apply o246;done|apply ogn;done)|(refine inl @hI Tryz.func240 Tryz.ntmps240 rfl rfl ?_;cbv;repeat' first|exact O5|intro β;cbv|apply O4|apply o246;done|apply ogn;done))
 repeat (any_goals (simp only[z1];try (cbv;repeat' first|exact O5|intro β;cbv|apply O4|apply o246;done|apply ogn;done)))
 refine hU 1 (by decide+kernel) ?_;cbv;repeat' first|exact O5|intro β;cbv|apply O4|apply o246;done|apply ogn;done
 repeat (any_goals (simp only[z2];try (cbv;repeat' first|exact O5|intro β;cbv|apply O4|apply o246;done|apply ogn;done)))
 simp only[emp];refine hP [(0,0),(1,0),(2,0),(3,0),(4,0),(5,0),(6,0),(7,0),(16,0)] _ _ _ _ ?_ rfl ?_ (hk ?Q0A0)
 ·rfl
 ·exact aP
end Go.Sx
