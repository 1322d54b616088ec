import Derived.Test.YtjikgjdicpggkaaGreatX21
set_option autoImplicit true
set_option relaxedAutoImplicit true
set_option linter.all false
set_option maxRecDepth 100000
set_option maxHeartbeats 4000000
namespace Go.Sx
open Go Go.Proofs
structure RQ where
 b:Nat
 lb:Nat
 id:Int
 tm:Int
 vo:Int
 st:Int
 ld:Int
 tg:Int
 pn:Int
 un:Int
 Y:Nat→Value
def RQ.c (x:RQ) (ms ma:SV):C:=.raw true x.b 264 [.i .u64 x.id,.i .u64 x.tm,.i .u64 x.vo,.v (.slice none 0 0),.ptr 1 x.lb 0,.v (x.Y 5),.v (x.Y 6),.v (x.Y 7),.v (x.Y 8),.bl false,.v (x.Y 10),.v (x.Y 11),.v (x.Y 12),.v (x.Y 13),.v (x.Y 14),.v (x.Y 15),
 .i .u64 x.st,.v (x.Y 17),ms,ma,.i .u64 x.ld,.i .u64 x.tg,.i .u64 x.pn,.v (x.Y 23),.i .u64 x.un,.v (x.Y 25),.v (x.Y 26),.v (x.Y 27),.v (x.Y 28),.v (x.Y 29),.v (x.Y 30),.v (x.Y 31),.v (x.Y 32),.v (x.Y 33),.v (x.Y 34),.v (x.Y 35),.v (x.Y 36),.v (x.Y 37),.v (x.Y 38),.v (x.Y 39)]
def aY (x:RQ) (ms ma:SV) (g:LGF) (s:STO):List C:=[x.c ms ma,oO x.lb 2 s.b g.r,s.raw 3,s.row]
structure RN where
 b:Nat
 sb:Nat
 hb:Nat
 sl:Int
 ss:Int
 ht:Int
 hv:Int
 hc:Int
def RN.cs (r:RN) (xb:Nat) (sa:SV):List C:=[.raw true r.b 243 [.ptr 0 xb 0,.bl false,.ptr 5 r.sb 0,.ptr 6 r.hb 0,sa],.raw true r.sb 166 [.i .u64 r.sl,.i .u64 r.ss],.prd (.st r.hb 226 (oN r.ht r.hv r.hc))]
def dN (x:RQ) (r:RN):Bool:=x.ld==r.sl&&x.st==r.ss
def aV (x:RQ) (g:LGF) (r:RN):Bool:=x.tm==r.ht&&x.vo==r.hv&&g.co==r.hc
theorem KP {x:RQ} {g:LGF} {s:STO} {r:RN} {sa:SV} {h1 h2:Value} {mn mb mo mc:Nat} {mf:FV} {K:SV→List C→Prop} (htm:1≤x.tm) (hpz:g.pz=false) (hai:0≤g.ai) (hai2:g.ai≤g.co) (hco:g.co≤4398046511104)
  (hKK:∀v:Bool,v=(!(dN x r)|| !(aV x g r)||false||decide (g.ai<g.co))→K (.bl v) (aY x (.v (.slice none 0 0)) (.v (.slice none 0 0)) g {s with hs:=.v h1,sn:=.v h2}++r.cs x.b (.v (.slice none 0 0))++[])) (F:HProp):
  inS Tryz.prog F 147 [.ptr 4 r.b 0] (aY x (.v (.slice none 0 0)) (.v (.slice none 0 0)) g {s with hs:=.v h1,sn:=.v h2}++r.cs x.b (.v (.slice none 0 0))++[]) K:=by
 obtain⟨b,lb,id,tm,vo,st,ld,tg,pn,un,Y⟩:=x;obtain⟨off,co,ai,ad,mx,sz,pz⟩:=g;obtain⟨sb,hs,sn',nn,eb,ro,cap,n,k0,k1,k2,k3,k4,k5,sp,t0,i0,f3,f4,es⟩:=s;obtain⟨rb,ssb,hb,sl,ss,ht,hv,hc⟩:=r;change 1≤tm at htm;change pz=false at hpz;change 0≤ai at hai;change ai≤co at hai2;change co≤4398046511104 at hco;subst hpz;refine aF ⟨false,false⟩ (fun _=>[rE,rC,fH,fL,fQ,uZ,jD,lY]) (fun _=>(.cons rB (.cons rO (.cons fG (.cons fE (.cons fP (.cons uD (.cons jV (.cons lZ .nil))))))))) Tryz.func147 Tryz.ntmps147 rfl rfl ?_;intros;rename_i AR _ CM hC _ _ _ _ _ _ _ hI _ _ _ _ hP;obtain⟨lo,hlo⟩:∃lo:Int,lo=ai+1:=⟨_,rfl⟩;replace hlo:lo=ai+1:=hlo;obtain⟨hi,hhi⟩:∃hi:Int,hi=co+1:=⟨_,rfl⟩;replace hhi:hi=co+1:=hhi;have a1:AR .add .u64 ai 1=lo:=O7;have a2:AR .add .u64 co 1=hi:=O7;have z0:CM .eq tm 0=false:=O6;have z1:CM .ne 0 0=false:=O6;have z2:CM .lt 0 0=false:=O6;have z3:CM .lt 0 1=true:=O6;have z4:CM .lt 0 (Int.ofNat 1)=true:=O6;cbv;repeat' first|exact O5|intro β;cbv|apply O4
 refine inl @hI Tryz.func195 Tryz.ntmps195 rfl rfl ?_;cbv;repeat' first|exact O5|intro β;cbv|apply O4
 rcases e1:CM .eq ld sl with _|_
 ·have q1:(ld==sl)=false:=by rw[hC] at e1;exact e1
  have hk:=hKK true (by simp only[dN,q1];rfl)
  repeat (any_goals (simp only[e1];try (cbv;repeat' first|exact O5|intro β;cbv|apply O4)))
  refine hP [(0,0),(1,0),(2,0),(3,0),(4,0),(5,0),(6,0)] _ _ _ _ ?_ rfl ?_ hk
  ·rfl
  ·exact aP
 have q1:(ld==sl)=true:=by rw[hC] at e1;exact e1
 repeat (any_goals (simp only[e1];try (cbv;repeat' first|exact O5|intro β;cbv|apply O4)))
 rcases e2:CM .eq st ss with _|_
 ·have q2:(st==ss)=false:=by rw[hC] at e2;exact e2
  have hk:=hKK true (by simp only[dN,q1,q2];rfl)
  repeat (any_goals (simp only[e2];try (cbv;repeat' first|exact O5|intro β;cbv|apply O4)))
  refine hP [(0,0),(1,0),(2,0),(3,0),(4,0),(5,0),(6,0)] _ _ _ _ ?_ rfl ?_ hk
  ·rfl
  ·exact aP
 have q2:(st==ss)=true:=by rw[hC] at e2;exact e2
 repeat (any_goals (simp only[e2];try (cbv;repeat' first|exact O5|intro β;cbv|apply O4)))
 repeat (first|(refine inl @hI Tryz.func152 Tryz.ntmps152 rfl rfl ?_;cbv;repeat' first|exact O5|intro β;cbv|apply O4)|(refine inl @hI Tryz.func207 Tryz.ntmps207 rfl rfl ?_;cbv;repeat' first|exact O5|intro β;cbv|apply O4)|(refine inl @hI Tryz.func196 Tryz.ntmps196 rfl rfl ?_;cbv;repeat' first|exact O5|intro β;cbv|apply O4))
 repeat (any_goals (simp only[z0];try (cbv;repeat' first|exact O5|intro β;cbv|apply O4)))
 refine inl @hI Tryz.func196 Tryz.ntmps196 rfl rfl ?_;cbv;repeat' first|exact O5|intro β;cbv|apply O4
 rcases e3:CM .eq tm ht with _|_
 ·have q3:(tm==ht)=false:=by rw[hC] at e3;exact e3
  have hk:=hKK true (by simp only[dN,aV,q1,q2,q3];rfl)
  repeat (any_goals (simp only[e3];try (cbv;repeat' first|exact O5|intro β;cbv|apply O4)))
  refine hP [(0,0),(1,0),(2,0),(3,0),(4,0),(5,0),(6,0)] _ _ _ _ ?_ rfl ?_ hk
  ·rfl
  ·exact aP
 have q3:(tm==ht)=true:=by rw[hC] at e3;exact e3
 repeat (any_goals (simp only[e3];try (cbv;repeat' first|exact O5|intro β;cbv|apply O4)))
 rcases e4:CM .eq vo hv with _|_
 ·have q4:(vo==hv)=false:=by rw[hC] at e4;exact e4
  have hk:=hKK true (by simp only[dN,aV,q1,q2,q3,q4];rfl)
  repeat (any_goals (simp only[e4];try (cbv;repeat' first|exact O5|intro β;cbv|apply O4)))
  refine hP [(0,0),(1,0),(2,0),(3,0),(4,0),(5,0),(6,0)] _ _ _ _ ?_ rfl ?_ hk
  ·rfl
  ·exact aP
 have q4:(vo==hv)=true:=by rw[hC] at e4;exact e4
 repeat (any_goals (simp only[e4];try (cbv;repeat' first|exact O5|intro β;cbv|apply O4)))
 rcases e5:CM .eq co hc with _|_
 ·have q5:(co==hc)=false:=by rw[hC] at e5;exact e5
  have hk:=hKK true (by simp only[dN,aV,q1,q2,q3,q4,q5];rfl)
  repeat (any_goals (simp only[e5];try (cbv;repeat' first|exact O5|intro β;cbv|apply O4)))
  refine hP [(0,0),(1,0),(2,0),(3,0),(4,0),(5,0),(6,0)] _ _ _ _ ?_ rfl ?_ hk
  ·rfl
  ·exact aP
 have q5:(co==hc)=true:=by rw[hC] at e5;exact e5
 repeat (any_goals (simp only[e5];try (cbv;repeat' first|exact O5|intro β;cbv|apply O4)))
 repeat (first|(refine inl @hI Tryz.func197 Tryz.ntmps197 rfl rfl ?_;cbv;repeat' first|exact O5|intro β;cbv|apply O4)|(refine inl @hI Tryz.func240 Tryz.ntmps240 rfl rfl ?_;cbv;repeat' first|exact O5|intro β;cbv|apply O4))
 repeat (first|(refine inl @hI Tryz.func198 Tryz.ntmps198 rfl rfl ?_;cbv;repeat' first|exact O5|intro β;cbv|apply O4)|(refine inl @hI Tryz.func199 Tryz.ntmps199 rfl rfl ?_;cbv;repeat' first|exact O5|intro β;cbv|apply O4)|(refine inl @hI Tryz.func242 Tryz.ntmps242 rfl rfl ?_;cbv;repeat' first|exact O5|intro β;cbv|apply O4))
 rcases e6:CM .lt lo hi with _|_
 ·have q6:decide (ai<co)=false:=by rw[hC] at e6;simp only[cmStd,decide_eq_false_iff_not] at e6⊢;omega
  have hk:=hKK false (by simp only[dN,aV,q1,q2,q3,q4,q5,q6];rfl)
  repeat (any_goals (simp only[a1,a2,z2,z1,e6];try (cbv;repeat' first|exact O5|intro β;cbv|apply O4)))
  refine hP [(0,0),(1,0),(2,0),(3,0),(4,0),(5,0),(6,0)] _ _ _ _ ?_ rfl ?_ hk
  ·rfl
  ·exact aP
 ·have q6:decide (ai<co)=true:=by rw[hC] at e6;simp only[cmStd,decide_eq_true_eq] at e6⊢;omega
  have hk:=hKK true (by simp only[dN,aV,q1,q2,q3,q4,q5,q6];rfl)
  repeat (any_goals (simp only[a1,a2,z2,z1,e6];try (cbv;repeat' first|exact O5|intro β;cbv|apply O4)))
  refine hP [(0,0),(1,0),(2,0),(3,0),(4,0),(5,0),(6,0)] _ _ _ _ ?_ rfl ?_ hk
  ·rfl
  ·exact aP
theorem KQ {x:RQ} {g:LGF} {s:STO} {r:RN} {sa:SV} {h1 h2:Value} {mn mb mo mc:Nat} {mf:FV} {K:SV→List C→Prop} (htm:1≤x.tm) (hpz:g.pz=false) (hai:0≤g.ai) (hai2:g.ai≤g.co) (hco:g.co≤4398046511104)
  (hKK:∀v:Bool,v=(!(dN x r)|| !(aV x g r)||true||decide (g.ai<g.co))→K (.bl v) (aY x (.sl 7 mn mb mo 1 mc) (.v (.slice none 0 0)) g {s with hs:=.v h1,sn:=.v h2}++r.cs x.b (.v (.slice none 0 0))++[.prd (.sl true mn mb mo mc (.sl 176 1 1 [mf]))])) (F:HProp):
  inS Tryz.prog F 147 [.ptr 4 r.b 0] (aY x (.sl 7 mn mb mo 1 mc) (.v (.slice none 0 0)) g {s with hs:=.v h1,sn:=.v h2}++r.cs x.b (.v (.slice none 0 0))++[.prd (.sl true mn mb mo mc (.sl 176 1 1 [mf]))]) K:=by
 obtain⟨b,lb,id,tm,vo,st,ld,tg,pn,un,Y⟩:=x;obtain⟨off,co,ai,ad,mx,sz,pz⟩:=g;obtain⟨sb,hs,sn',nn,eb,ro,cap,n,k0,k1,k2,k3,k4,k5,sp,t0,i0,f3,f4,es⟩:=s;obtain⟨rb,ssb,hb,sl,ss,ht,hv,hc⟩:=r;change 1≤tm at htm;change pz=false at hpz;change 0≤ai at hai;change ai≤co at hai2;change co≤4398046511104 at hco;subst hpz;refine aF ⟨false,false⟩ (fun _=>[rE,rC,fH,fL,fQ,uZ,jD,lY]) (fun _=>(.cons rB (.cons rO (.cons fG (.cons fE (.cons fP (.cons uD (.cons jV (.cons lZ .nil))))))))) Tryz.func147 Tryz.ntmps147 rfl rfl ?_;intros;rename_i AR _ CM hC _ _ _ _ _ _ _ hI _ _ _ _ hP;obtain⟨lo,hlo⟩:∃lo:Int,lo=ai+1:=⟨_,rfl⟩;replace hlo:lo=ai+1:=hlo;obtain⟨hi,hhi⟩:∃hi:Int,hi=co+1:=⟨_,rfl⟩;replace hhi:hi=co+1:=hhi;have a1:AR .add .u64 ai 1=lo:=O7;have a2:AR .add .u64 co 1=hi:=O7;have z0:CM .eq tm 0=false:=O6;have z1:CM .ne 0 0=false:=O6;have z2:CM .lt 0 0=false:=O6;have z3:CM .lt 0 1=true:=O6;have z4:CM .lt 0 (Int.ofNat 1)=true:=O6;cbv;repeat' first|exact O5|intro β;cbv|apply O4
 refine inl @hI Tryz.func195 Tryz.ntmps195 rfl rfl ?_;cbv;repeat' first|exact O5|intro β;cbv|apply O4
 rcases e1:CM .eq ld sl with _|_
 ·have q1:(ld==sl)=false:=by rw[hC] at e1;exact e1
  have hk:=hKK true (by simp only[dN,q1];rfl)
  repeat (any_goals (simp only[e1];try (cbv;repeat' first|exact O5|intro β;cbv|apply O4)))
  refine hP [(0,0),(1,0),(2,0),(3,0),(4,0),(5,0),(6,0),(7,0)] _ _ _ _ ?_ rfl ?_ hk
  ·rfl
  ·exact aP
 have q1:(ld==sl)=true:=by rw[hC] at e1;exact e1
 repeat (any_goals (simp only[e1];try (cbv;repeat' first|exact O5|intro β;cbv|apply O4)))
 rcases e2:CM .eq st ss with _|_
 ·have q2:(st==ss)=false:=by rw[hC] at e2;exact e2
  have hk:=hKK true (by simp only[dN,q1,q2];rfl)
  repeat (any_goals (simp only[e2];try (cbv;repeat' first|exact O5|intro β;cbv|apply O4)))
  refine hP [(0,0),(1,0),(2,0),(3,0),(4,0),(5,0),(6,0),(7,0)] _ _ _ _ ?_ rfl ?_ hk
  ·rfl
  ·exact aP
 have q2:(st==ss)=true:=by rw[hC] at e2;exact e2
 repeat (any_goals (simp only[e2];try (cbv;repeat' first|exact O5|intro β;cbv|apply O4)))
 repeat (first|(refine inl @hI Tryz.func152 Tryz.ntmps152 rfl rfl ?_;cbv;repeat' first|exact O5|intro β;cbv|apply O4)|(refine inl @hI Tryz.func207 Tryz.ntmps207 rfl rfl ?_;cbv;repeat' first|exact O5|intro β;cbv|apply O4)|(refine inl @hI Tryz.func196 Tryz.ntmps196 rfl rfl ?_;cbv;repeat' first|exact O5|intro β;cbv|apply O4))
 repeat (any_goals (simp only[z0];try (cbv;repeat' first|exact O5|intro β;cbv|apply O4)))
 refine inl @hI Tryz.func196 Tryz.ntmps196 rfl rfl ?_;cbv;repeat' first|exact O5|intro β;cbv|apply O4
 rcases e3:CM .eq tm ht with _|_
 ·have q3:(tm==ht)=false:=by rw[hC] at e3;exact e3
  have hk:=hKK true (by simp only[dN,aV,q1,q2,q3];rfl)
  repeat (any_goals (simp only[e3];try (cbv;repeat' first|exact O5|intro β;cbv|apply O4)))
  refine hP [(0,0),(1,0),(2,0),(3,0),(4,0),(5,0),(6,0),(7,0)] _ _ _ _ ?_ rfl ?_ hk
  ·rfl
  ·exact aP
 have q3:(tm==ht)=true:=by rw[hC] at e3;exact e3
 repeat (any_goals (simp only[e3];try (cbv;repeat' first|exact O5|intro β;cbv|apply O4)))
 rcases e4:CM .eq vo hv with _|_
 ·have q4:(vo==hv)=false:=by rw[hC] at e4;exact e4
  have hk:=hKK true (by simp only[dN,aV,q1,q2,q3,q4];rfl)
  repeat (any_goals (simp only[e4];try (cbv;repeat' first|exact O5|intro β;cbv|apply O4)))
  refine hP [(0,0),(1,0),(2,0),(3,0),(4,0),(5,0),(6,0),(7,0)] _ _ _ _ ?_ rfl ?_ hk
  ·rfl
  ·exact aP
 have q4:(vo==hv)=true:=by rw[hC] at e4;exact e4
 repeat (any_goals (simp only[e4];try (cbv;repeat' first|exact O5|intro β;cbv|apply O4)))
 rcases e5:CM .eq co hc with _|_
 ·have q5:(co==hc)=false:=by rw[hC] at e5;exact e5
  have hk:=hKK true (by simp only[dN,aV,q1,q2,q3,q4,q5];rfl)
  repeat (any_goals (simp only[e5];try (cbv;repeat' first|exact O5|intro β;cbv|apply O4)))
  refine hP [(0,0),(1,0),(2,0),(3,0),(4,0),(5,0),(6,0),(7,0)] _ _ _ _ ?_ rfl ?_ hk
  ·rfl
  ·exact aP
 have q5:(co==hc)=true:=by rw[hC] at e5;exact e5
 repeat (any_goals (simp only[e5];try (cbv;repeat' first|exact O5|intro β;cbv|apply O4)))
 repeat (first|(refine inl @hI Tryz.func197 Tryz.ntmps197 rfl rfl ?_;cbv;repeat' first|exact O5|intro β;cbv|apply O4)|(refine inl @hI Tryz.func240 Tryz.ntmps240 rfl rfl ?_;cbv;repeat' first|exact O5|intro β;cbv|apply O4))
 have hk:=hKK true (by simp only[dN,aV,q1,q2,q3,q4,q5];rfl)
 repeat (any_goals (simp only[z2,z3,z4];try (cbv;repeat' first|exact O5|intro β;cbv|apply O4)))
 refine hP [(0,0),(1,0),(2,0),(3,0),(4,0),(5,0),(6,0),(7,0)] _ _ _ _ ?_ rfl ?_ hk
 ·rfl
 ·exact aP
theorem LH {x:RQ} {g:LGF} {s:STO} {r:RN} {sa:SV} {h1 h2:Value} {mn mb mo mc:Nat} {mf:FV} {K:SV→List C→Prop} (htm:1≤x.tm) (hpz:g.pz=false) (hai:0≤g.ai) (hai2:g.ai≤g.co) (hco:g.co≤4398046511104)
  (hKK:∀v:Bool,v=(!(dN x r)|| !(aV x g r)||true||decide (g.ai<g.co))→K (.bl v) (aY x (.v (.slice none 0 0)) (.sl 7 mn mb mo 1 mc) g {s with hs:=.v h1,sn:=.v h2}++r.cs x.b (.v (.slice none 0 0))++[.prd (.sl true mn mb mo mc (.sl 176 1 1 [mf]))])) (F:HProp):
  inS Tryz.prog F 147 [.ptr 4 r.b 0] (aY x (.v (.slice none 0 0)) (.sl 7 mn mb mo 1 mc) g {s with hs:=.v h1,sn:=.v h2}++r.cs x.b (.v (.slice none 0 0))++[.prd (.sl true mn mb mo mc (.sl 176 1 1 [mf]))]) K:=by
 obtain⟨b,lb,id,tm,vo,st,ld,tg,pn,un,Y⟩:=x;obtain⟨off,co,ai,ad,mx,sz,pz⟩:=g;obtain⟨sb,hs,sn',nn,eb,ro,cap,n,k0,k1,k2,k3,k4,k5,sp,t0,i0,f3,f4,es⟩:=s;obtain⟨rb,ssb,hb,sl,ss,ht,hv,hc⟩:=r;change 1≤tm at htm;change pz=false at hpz;change 0≤ai at hai;change ai≤co at hai2;change co≤4398046511104 at hco;subst hpz;refine aF ⟨false,false⟩ (fun _=>[rE,rC,fH,fL,fQ,uZ,jD,lY]) (fun _=>(.cons rB (.cons rO (.cons fG (.cons fE (.cons fP (.cons uD (.cons jV (.cons lZ .nil))))))))) Tryz.func147 Tryz.ntmps147 rfl rfl ?_;intros;rename_i AR _ CM hC _ _ _ _ _ _ _ hI _ _ _ _ hP;obtain⟨lo,hlo⟩:∃lo:Int,lo=ai+1:=⟨_,rfl⟩;replace hlo:lo=ai+1:=hlo;obtain⟨hi,hhi⟩:∃hi:Int,hi=co+1:=⟨_,rfl⟩;replace hhi:hi=co+1:=hhi;have a1:AR .add .u64 ai 1=lo:=O7;have a2:AR .add .u64 co 1=hi:=O7;have z0:CM .eq tm 0=false:=O6;have z1:CM .ne 0 0=false:=O6;have z2:CM .lt 0 0=false:=O6;have z3:CM .lt 0 1=true:=O6;have z4:CM .lt 0 (Int.ofNat 1)=true:=O6;cbv;repeat' first|exact O5|intro β;cbv|apply O4
 refine inl @hI Tryz.func195 Tryz.ntmps195 rfl rfl ?_;cbv;repeat' first|exact O5|intro β;cbv|apply O4
 rcases e1:CM .eq ld sl with _|_
 ·have q1:(ld==sl)=false:=by rw[hC] at e1;exact e1
  have hk:=hKK true (by simp only[dN,q1];rfl)
  repeat (any_goals (simp only[e1];try (cbv;repeat' first|exact O5|intro β;cbv|apply O4)))
  refine hP [(0,0),(1,0),(2,0),(3,0),(4,0),(5,0),(6,0),(7,0)] _ _ _ _ ?_ rfl ?_ hk
  ·rfl
  ·exact aP
 have q1:(ld==sl)=true:=by rw[hC] at e1;exact e1
 repeat (any_goals (simp only[e1];try (cbv;repeat' first|exact O5|intro β;cbv|apply O4)))
 rcases e2:CM .eq st ss with _|_
 ·have q2:(st==ss)=false:=by rw[hC] at e2;exact e2
  have hk:=hKK true (by simp only[dN,q1,q2];rfl)
  repeat (any_goals (simp only[e2];try (cbv;repeat' first|exact O5|intro β;cbv|apply O4)))
  refine hP [(0,0),(1,0),(2,0),(3,0),(4,0),(5,0),(6,0),(7,0)] _ _ _ _ ?_ rfl ?_ hk
  ·rfl
  ·exact aP
 have q2:(st==ss)=true:=by rw[hC] at e2;exact e2
 repeat (any_goals (simp only[e2];try (cbv;repeat' first|exact O5|intro β;cbv|apply O4)))
 repeat (first|(refine inl @hI Tryz.func152 Tryz.ntmps152 rfl rfl ?_;cbv;repeat' first|exact O5|intro β;cbv|apply O4)|(refine inl @hI Tryz.func207 Tryz.ntmps207 rfl rfl ?_;cbv;repeat' first|exact O5|intro β;cbv|apply O4)|(refine inl @hI Tryz.func196 Tryz.ntmps196 rfl rfl ?_;cbv;repeat' first|exact O5|intro β;cbv|apply O4))
 repeat (any_goals (simp only[z0];try (cbv;repeat' first|exact O5|intro β;cbv|apply O4)))
 refine inl @hI Tryz.func196 Tryz.ntmps196 rfl rfl ?_;cbv;repeat' first|exact O5|intro β;cbv|apply O4
 rcases e3:CM .eq tm ht with _|_
 ·have q3:(tm==ht)=false:=by rw[hC] at e3;exact e3
  have hk:=hKK true (by simp only[dN,aV,q1,q2,q3];rfl)
  repeat (any_goals (simp only[e3];try (cbv;repeat' first|exact O5|intro β;cbv|apply O4)))
  refine hP [(0,0),(1,0),(2,0),(3,0),(4,0),(5,0),(6,0),(7,0)] _ _ _ _ ?_ rfl ?_ hk
  ·rfl
  ·exact aP
 have q3:(tm==ht)=true:=by rw[hC] at e3;exact e3
 repeat (any_goals (simp only[e3];try (cbv;repeat' first|exact O5|intro β;cbv|apply O4)))
 rcases e4:CM .eq vo hv with _|_
 ·have q4:(vo==hv)=false:=by rw[hC] at e4;exact e4
  have hk:=hKK true (by simp only[dN,aV,q1,q2,q3,q4];rfl)
  repeat (any_goals (simp only[e4];try (cbv;repeat' first|exact O5|intro β;cbv|apply O4)))
  refine hP [(0,0),(1,0),(2,0),(3,0),(4,0),(5,0),(6,0),(7,0)] _ _ _ _ ?_ rfl ?_ hk
  ·rfl
  ·exact aP
 have q4:(vo==hv)=true:=by rw[hC] at e4;exact e4
 repeat (any_goals (simp only[e4];try (cbv;repeat' first|exact O5|intro β;cbv|apply O4)))
 rcases e5:CM .eq co hc with _|_
 ·have q5:(co==hc)=false:=by rw[hC] at e5;exact e5
  have hk:=hKK true (by simp only[dN,aV,q1,q2,q3,q4,q5];rfl)
  repeat (any_goals (simp only[e5];try (cbv;repeat' first|exact O5|intro β;cbv|apply O4)))
  refine hP [(0,0),(1,0),(2,0),(3,0),(4,0),(5,0),(6,0),(7,0)] _ _ _ _ ?_ rfl ?_ hk
  ·rfl
  ·exact aP
 have q5:(co==hc)=true:=by rw[hC] at e5;exact e5
 repeat (any_goals (simp only[e5];try (cbv;repeat' first|exact O5|intro β;cbv|apply O4)))
 repeat (first|(refine inl @hI Tryz.func197 Tryz.ntmps197 rfl rfl ?_;cbv;repeat' first|exact O5|intro β;cbv|apply O4)|(refine inl @hI Tryz.func240 Tryz.ntmps240 rfl rfl ?_;cbv;repeat' first|exact O5|intro β;cbv|apply O4))
 have hk:=hKK true (by simp only[dN,aV,q1,q2,q3,q4,q5];rfl)
 repeat (any_goals (simp only[z2,z3,z4];try (cbv;repeat' first|exact O5|intro β;cbv|apply O4)))
 refine hP [(0,0),(1,0),(2,0),(3,0),(4,0),(5,0),(6,0),(7,0)] _ _ _ _ ?_ rfl ?_ hk
 ·rfl
 ·exact aP
theorem M9 {x:RQ} {g:LGF} {s:STO} {r:RN} {h1 h2 cf:Value} {W:Nat→Value} {nb:Nat} {am:Int} {K:SV→List C→Prop} (htm:1≤x.tm) (hpz:g.pz=false) (hai:0≤g.ai) (hco:g.co≤4398046511104)
  (hld:r.sl=x.ld) (hst:r.ss=x.st) (hce:g.co=g.ai) (hhd:aV x g r=true)
  (hQ:K (.agg K4) (aY x (.v (.slice none 0 0)) (.v (.slice none 0 0)) g {s with hs:=.v h1,sn:=.v h2}++r.cs x.b (.v (.slice none 0 0))++[eP nb W 4 2 r.b s.b am cf])) (F:HProp):
  inS Tryz.prog F 101 [.ptr 7 nb 0] (aY x (.v (.slice none 0 0)) (.v (.slice none 0 0)) g {s with hs:=.v h1,sn:=.v h2}++r.cs x.b (.v (.slice none 0 0))++[eP nb W 4 2 r.b s.b am cf]) K:=by
 obtain⟨b,lb,id,tm,vo,st,ld,tg,pn,un,Y⟩:=x;obtain⟨off,co,ai,ad,mx,sz,pz⟩:=g;obtain⟨sb,hs,sn',nn,eb,ro,cap,n,k0,k1,k2,k3,k4,k5,sp,t0,i0,f3,f4,es⟩:=s;obtain⟨rb,ssb,hb,sl,ss,ht,hv,hc⟩:=r;have hA0:=fun(K':SV→List C→Prop) F' u=>KP (x:=⟨b,lb,id,tm,vo,st,ld,tg,pn,un,Y⟩) (g:=⟨off,co,ai,ad,mx,sz,pz⟩) (s:=⟨sb,hs,sn',nn,eb,ro,cap,n,k0,k1,k2,k3,k4,k5,sp,t0,i0,f3,f4,es⟩) (r:=⟨rb,ssb,hb,sl,ss,ht,hv,hc⟩) (sa:=.v (.slice none 0 0)) (h1:=h1) (h2:=h2) (mn:=0) (mb:=0) (mo:=0) (mc:=0) (mf:=.np) (K:=K') htm hpz hai (by rw[hce];exact Int.le_refl _) hco u F';change sl=ld at hld;change ss=st at hst;change co=ai at hce;subst hld;subst hst;subst hce;refine aF ⟨false,false⟩ (fun _=>[]) (fun _=>.nil) Tryz.func101 Tryz.ntmps101 rfl rfl ?_;intros;rename_i hN _ hP;cbv;repeat' first|exact O5|intro β;cbv|apply O4
 refine aD hN [0,1,2,3,4,5,6] (by decide) rfl ?_ ?_ (fun F1=>hA0 _ F1 ?_)
 ·rfl
 ·exact⟨⟨rfl,rfl,rfl,rfl⟩,⟨rfl,rfl,rfl,rfl⟩,⟨rfl,rfl,rfl,rfl⟩,rfl,⟨rfl,rfl,rfl,rfl⟩,⟨rfl,rfl,rfl,rfl⟩,rfl,trivial⟩
 intro v hvv;rw[hhd] at hvv;obtain rfl:v=false:=by rw[hvv];simp[dN]
 cbv;repeat' first|exact O5|intro β;cbv|apply O4
 refine hP [(0,0),(1,0),(2,0),(3,0),(4,0),(5,0),(6,0),(7,0)] _ _ _ _ ?_ rfl ?_ hQ
 ·rfl
 ·exact(by cbv;repeat' first|exact lg|apply O4|exact rfl|(simp;done))
def K6 (a:Nat→SV) (role lead t v c ap tg:Int) (v9 v10 v11 v12:Value) (au:Bool):SV:=.agg [a 0,a 1,.i .i64 role,.i .u64 lead,.i .u64 t,.i .u64 v,.i .u64 c,.i .u64 ap,.i .u64 tg,.v v9,.v v10,.v v11,.v v12,.bl au,
 a 14,a 15,a 16,a 17,a 18,a 19,a 20,a 21,a 22,a 23,a 24,a 25,a 26,a 27,a 28,a 29,a 30,a 31,a 32]
def mustP (x:(Int×Int)×Int×Int):Bool:=x.1.2 !=x.2.2||x.1.1 !=x.2.1
inductive zY (t v t2 v2:Int) (m:Bool):Prop where
 |mk (h:m=mustP ((t,v),t2,v2))
def JI:cJ Pay where
 X:=(Nat×Int×Int×Int)×(Nat×Int×Int×Int)×Bool
 args:=fun((b,t,v,c),(b2,t2,v2,c2),m)=>[.ptr 0 b 0,.ptr 1 b2 0,.i .i64 0]
 pre:=fun((b,t,v,c),(b2,t2,v2,c2),m)=>[.prd (.st b 226 (oN t v c)),.prd (.st b2 226 (oN t2 v2 c2))]
 obl:=fun((b,t,v,c),(b2,t2,v2,c2),m)=>zY t v t2 v2 m
 res:=fun(_,_,m) _=>.bl m
theorem JO:JI.ok Tryz.prog 246:=by
 refine aJ ⟨false,false⟩ (fun _=>[fH,fL]) (fun _=>(.cons fG (.cons fE .nil))) _ Tryz.func246 Tryz.ntmps246 rfl rfl ?_;intros;rename_i CM hC _ _ _ _ _ _ _ _ _ _ x _ _ ho _ hP;obtain⟨⟨b,t,v,c⟩,⟨b2,t2,v2,c2⟩,m⟩:=x;obtain⟨ho⟩:=ho;change m=(v !=v2||t !=t2) at ho;have z0:CM .ne 0 0=false:=O6;cbv;repeat' first|exact O5|intro β;cbv|apply O4
 repeat (any_goals (simp only[z0];try (cbv;repeat' first|exact O5|intro β;cbv|apply O4)))
 rcases hv:CM .ne v v2 with _|_
 ·have q1:(v !=v2)=false:=by rw[hC] at hv;exact hv
  repeat (any_goals (simp only[hv];try (cbv;repeat' first|exact O5|intro β;cbv|apply O4)))
  rcases ht:CM .ne t t2 with _|_
  ·have q2:(t !=t2)=false:=by rw[hC] at ht;exact ht
   rw[q1,q2] at ho;subst ho
   repeat (any_goals (simp only[ht];try (cbv;repeat' first|exact O5|intro β;cbv|apply O4)))
   exact hP (fun _=>0) [(0,0),(1,0)] _ _ rfl bM
  ·have q2:(t !=t2)=true:=by rw[hC] at ht;exact ht
   rw[q1,q2] at ho;subst ho
   repeat (any_goals (simp only[ht];try (cbv;repeat' first|exact O5|intro β;cbv|apply O4)))
   exact hP (fun _=>0) [(0,0),(1,0)] _ _ rfl bM
 ·have q1:(v !=v2)=true:=by rw[hC] at hv;exact hv
  rw[q1] at ho;subst ho
  repeat (any_goals (simp only[hv];try (cbv;repeat' first|exact O5|intro β;cbv|apply O4)))
  exact hP (fun _=>0) [(0,0),(1,0)] _ _ rfl bM
def m246 (TX:TF) (args:List SV):SM Pay (JI.X×List Nat):=match args with
 |[.ptr h b _,.ptr h2 b2 _,_]=>.rdC h fun c=>match c with
  |.prd (.st _ _ [.oi _ _ (some t),.oi _ _ (some v),.oi _ _ (some c)])=>.rdC h2 fun c'=>match c' with
   |.prd (.st _ _ [.oi _ _ (some t2),.oi _ _ (some v2),.oi _ _ (some c2)])=>.ret (((b,t,v,c),(b2,t2,v2,c2),TX.ap mustP ((t,v),t2,v2)),[h,h2])|_=>.fail
  |_=>.fail
 |_=>.fail
theorem DC:cI 246:=⟨_,Tryz.func246,rfl,by decide⟩
def D0 (TX:TF):aN:=⟨246,0,false,JI.app (m246 TX),JI.app_ok JO (m246 TX),fun _ args base β β'=>rfl⟩
end Go.Sx
