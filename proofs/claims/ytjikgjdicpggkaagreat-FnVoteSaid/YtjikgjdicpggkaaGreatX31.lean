import Derived.Test.YtjikgjdicpggkaaGreatX28
import Derived.Test.YtjikgjdicpggkaaGreatX29
import Derived.Test.YtjikgjdicpggkaaGreatX30
set_option autoImplicit true
set_option relaxedAutoImplicit true
set_option linter.all false
set_option maxRecDepth 100000
set_option maxHeartbeats 4000000
namespace Go.Sx
open Go Go.Proofs
theorem s139p {x:RQ} {g:LGF} {s:STO} {h1 h2:Value} {m mb:Nat} {rl:List FV} {ft:Int} {fa fb fc:FV} {K:SV→List C→Prop} (hpz:g.pz=false) (hai:g.ai=g.co) (had:g.ad≤g.co)
  (hm1:1≤m) (hm2:m≤100) (hrl:EnsOK rl m) (hlast:nth rl (m-1)=.st 212 [fa,.oi 22 .u64 (some g.co),fb,fc]) (hsz:0≤g.sz) (hsz2:g.sz+20000≤g.mx) (hmx:g.mx<18446744073709551616) (hun:0≤x.un) (hun2:x.un<4294967296)
  (hQ:∀(z u:Int),0≤z→z≤g.sz→0≤u→u≤x.un→K (.v .nilIface) (aY {x with un:=u} (.v (.slice none 0 0)) (.v (.slice none 0 0)) {g with ad:=g.co,sz:=z} {s with hs:=.v h1,sn:=.v h2})) (F:HProp):
  inS Tryz.prog F 139 [.ptr 0 x.b 0,.ptr 4 mb 0] (aY x (.v (.slice none 0 0)) (.v (.slice none 0 0)) g {s with hs:=.v h1,sn:=.v h2}++
   [.prd (.st mb 269 [.oi 266 .i32 (some 22),.oi 22 .u64 (some x.id),.oi 22 .u64 (some 18446744073709551614),.oi 22 .u64 (some 0),.oi 22 .u64 none,.oi 22 .u64 none,.sl 209 1 m rl,.oi 22 .u64 none,.oi 22 .u64 none,.np,.ob 4 none,.oi 22 .u64 none,.bys 5 0 none,.sl 176 1 0 []])]) K:=by
 obtain⟨b,lb,id,tm,vo,st,ld,tg,pn,un,Y⟩:=x;obtain⟨off,cm,ai,ad,mx,sz,pz⟩:=g;obtain⟨sb,hs,sn',nn,eb,ro,cap,n,k0,k1,k2,k3,k4,k5,sp,t0,i0,f3,f4,es⟩:=s;change pz=false at hpz;change ai=cm at hai;subst hpz;subst hai;change ad≤ai at had;change nth rl (m-1)=.st 212 [fa,.oi 22 .u64 (some ai),fb,fc] at hlast;change 0≤sz at hsz;change sz+20000≤mx at hsz2;change mx<18446744073709551616 at hmx;change 0≤un at hun;change un<4294967296 at hun2;refine aF ⟨false,false⟩ (fun _=>[zK,wS,r185,fZ,rD,r189]) (fun _=>(.cons AI (.cons xI (.cons x185 (.cons gJ (.cons rM (.cons x189 .nil))))))) Tryz.func139 Tryz.ntmps139 rfl rfl ?_;intros;rename_i hNF _ _ _ _ _ _ _ _ AR hA CM hC _ _ _ _ _ _ hU hI hL _ _ hsat hP;rw[←hNF] at hlast;obtain⟨m1,hm1'⟩:∃m1,m1=m-1:=⟨_,rfl⟩;rw[←hm1'] at hlast;have o187:vT rl m:=⟨hrl,hm2⟩;have g0:CM .eq (Int.ofNat m) 0=false:=O6;have g1:CM .lt 0 (Int.ofNat m)=true:=O6;have g2:AR .sub .i64 (Int.ofNat m) 1=Int.ofNat m1:=O7;have g3:CM .le 0 (Int.ofNat m1)=true:=O6;have g4:CM .lt (Int.ofNat m1) (Int.ofNat m)=true:=O6;have g5:CM .lt ai ai=false:=O6;have g6:CM .lt ai ad=false:=O6;have z8:CM .eq 0 0=true:=O6;have w0:CM .eq 22 0=false:=O6;have w20:CM .eq 22 20=false:=O6;have w22:CM .eq 22 22=true:=O6;have x1:AR .max .u64 ai ad=ai:=by rw[hA];simp only[arStd];omega
 have x2:AR .max .u64 ai ai=ai:=by rw[hA];simp only[arStd];omega
 cbv;repeat' first|exact O5|intro β;cbv|apply O4|apply o187;done
 repeat (any_goals (simp only[g0,g1,g2,g3,g4,hlast,z8,w0,w20,w22];try (cbv;repeat' first|exact O5|intro β;cbv|apply O4|apply o187;done)))
 all_goals try exact g4
 rename_i bq;have hb:bq 0≤14000:=β;obtain⟨S,hS⟩:∃S:Int,S=Int.ofNat (bq 0):=⟨_,rfl⟩;have hS0:0≤S:=by rw[hS];exact Int.natCast_nonneg _
 have hS1:S≤14000:=by rw[hS,Int.ofNat_eq_natCast];omega
 rw[←hS];have y0:CM .le mx 0=false:=O6;refine inl @hI Tryz.func186 Tryz.ntmps186 rfl rfl ?_;cbv;repeat' first|exact O5|intro β;cbv|apply O4|apply o187;done
 repeat (any_goals (simp only[x1];try (cbv;repeat' first|exact O5|intro β;cbv|apply O4|apply o187;done)))
 refine inl @hI Tryz.func228 Tryz.ntmps228 rfl rfl ?_;cbv;repeat' first|exact O5|intro β;cbv|apply O4|apply o187;done
 repeat (any_goals (simp only[x2,g5,g6];try (cbv;repeat' first|exact O5|intro β;cbv|apply O4|apply o187;done)))
 rcases hq:CM .lt S sz with _|_
 ·have hkk:=hQ 0;replace hkk:=fun u h3 h4=>hkk u (Int.le_refl _) hsz h3 h4
  repeat (any_goals (simp only[hq,y0];try (cbv;repeat' first|exact O5|intro β;cbv|apply O4|apply o187;done)))
  rename_i bp;have hp:bp 0≤14000:=β;obtain⟨P,hPe⟩:∃P:Int,P=Int.ofNat (bp 0):=⟨_,rfl⟩;have hp0:0≤P:=by rw[hPe];exact Int.natCast_nonneg _
  rw[←hPe];refine inl @hI Tryz.func188 Tryz.ntmps188 rfl rfl ?_;cbv;repeat' first|exact O5|intro β;cbv|apply O4|apply o187;done
  rcases hr:CM .lt un P with _|_
  ·have hle:P≤un:=by rw[hC] at hr;simpa [cmStd] using hr
   obtain⟨u,hu⟩:∃u,u=AR .sub .u64 un P:=⟨_,rfl⟩;have hu2:u=un-P:=by rw[hu,hA];simp only[arStd,IntKind.wrap_u64];omega
   have hk:=hkk u (by omega) (by show u≤un;omega)
   repeat (any_goals (simp only[hr,←hu];try (cbv;repeat' first|exact O5|intro β;cbv|apply O4|apply o187;done)))
   refine hP [(0,0),(1,0),(2,0),(3,0)] _ _ _ _ ?_ rfl ?_ hk
   ·rfl
   ·exact aP
  ·have hk:=hkk 0 (Int.le_refl _) hun
   repeat (any_goals (simp only[hr];try (cbv;repeat' first|exact O5|intro β;cbv|apply O4|apply o187;done)))
   refine hP [(0,0),(1,0),(2,0),(3,0)] _ _ _ _ ?_ rfl ?_ hk
   ·rfl
   ·exact aP
 ·obtain⟨z,hz⟩:∃z,z=AR .sub .u64 sz S:=⟨_,rfl⟩;have hlt:S<sz:=by rw[hC] at hq;simpa [cmStd] using hq
  have hz2:z=sz-S:=by rw[hz,hA];simp only[arStd,IntKind.wrap_u64];omega
  have y1:CM .le mx z=false:=O6;have hkk:=fun u h3 h4=>hQ z u (by omega) (by show z≤sz;omega) h3 h4
  repeat (any_goals (simp only[hq,←hz,y1];try (cbv;repeat' first|exact O5|intro β;cbv|apply O4|apply o187;done)))
  rename_i bp;have hp:bp 0≤14000:=β;obtain⟨P,hPe⟩:∃P:Int,P=Int.ofNat (bp 0):=⟨_,rfl⟩;have hp0:0≤P:=by rw[hPe];exact Int.natCast_nonneg _
  rw[←hPe];refine inl @hI Tryz.func188 Tryz.ntmps188 rfl rfl ?_;cbv;repeat' first|exact O5|intro β;cbv|apply O4|apply o187;done
  rcases hr:CM .lt un P with _|_
  ·have hle:P≤un:=by rw[hC] at hr;simpa [cmStd] using hr
   obtain⟨u,hu⟩:∃u,u=AR .sub .u64 un P:=⟨_,rfl⟩;have hu2:u=un-P:=by rw[hu,hA];simp only[arStd,IntKind.wrap_u64];omega
   have hk:=hkk u (by omega) (by show u≤un;omega)
   repeat (any_goals (simp only[hr,←hu];try (cbv;repeat' first|exact O5|intro β;cbv|apply O4|apply o187;done)))
   refine hP [(0,0),(1,0),(2,0),(3,0)] _ _ _ _ ?_ rfl ?_ hk
   ·rfl
   ·exact aP
  ·have hk:=hkk 0 (Int.le_refl _) hun
   repeat (any_goals (simp only[hr];try (cbv;repeat' first|exact O5|intro β;cbv|apply O4|apply o187;done)))
   refine hP [(0,0),(1,0),(2,0),(3,0)] _ _ _ _ ?_ rfl ?_ hk
   ·rfl
   ·exact aP
theorem rT {x:RQ} {g:LGF} {s:STO} {r:RN} {h1 h2 w0 w1 w2 w3 w4 w5 w6:Value} {sy:Bool} {m mb b9 o9 c9:Nat} {rl:List FV} {fa fb fc:FV} {K:SV→List C→Prop} (hpz:g.pz=false) (hai:g.ai=g.co) (had:g.ad≤g.co)
  (hm1:1≤m) (hm2:m≤100) (hrl:EnsOK rl m) (hlast:nth rl (m-1)=.st 212 [fa,.oi 22 .u64 (some g.co),fb,fc]) (hsz:0≤g.sz) (hsz2:g.sz+20000≤g.mx) (hmx:g.mx<18446744073709551616) (hun:0≤x.un) (hun2:x.un<4294967296)
  (hQ:∀(z u:Int),0≤z→z≤g.sz→0≤u→u≤x.un→K (.tup []) (aY {x with un:=u} (.v (.slice none 0 0)) (.v (.slice none 0 0)) {g with ad:=g.co,sz:=z} {s with hs:=.v h1,sn:=.v h2}++r.cs x.b (.sl 7 1 b9 o9 0 c9)++[.prd (.mo 176 1 b9 o9 c9 [])])) (F:HProp):
  inS Tryz.prog F 157 [.ptr 4 r.b 0,.agg [.v w0,.v w1,.v w2,.v w3,.v w4,.v w5,.v w6,.bl sy]] (aY x (.v (.slice none 0 0)) (.v (.slice none 0 0)) g {s with hs:=.v h1,sn:=.v h2}++r.cs x.b (.sl 7 1 b9 o9 1 c9)++[.prd (.mo 176 1 b9 o9 c9 [some mb]),
   .prd (.st mb 269 [.oi 266 .i32 (some 22),.oi 22 .u64 (some x.id),.oi 22 .u64 (some 18446744073709551614),.oi 22 .u64 (some 0),.oi 22 .u64 none,.oi 22 .u64 none,.sl 209 1 m rl,.oi 22 .u64 none,.oi 22 .u64 none,.np,.ob 4 none,.oi 22 .u64 none,.bys 5 0 none,.sl 176 1 0 []])]) K:=by
 obtain⟨b,lb,id,tm,vo,st,ld,tg,pn,un,Y⟩:=x;obtain⟨off,cm,ai,ad,mx,sz,pz⟩:=g;obtain⟨sb,hs,sn',nn,eb,ro,cap,n,k0,k1,k2,k3,k4,k5,sp,t0,i0,f3,f4,es⟩:=s;obtain⟨rb,ssb,hb,sl,ss,ht,hv,hc⟩:=r;have hstep:=fun(K':SV→List C→Prop) F' hq=>s139p (x:=⟨b,lb,id,tm,vo,st,ld,tg,pn,un,Y⟩) (g:=⟨off,cm,ai,ad,mx,sz,pz⟩) (s:=⟨sb,hs,sn',nn,eb,ro,cap,n,k0,k1,k2,k3,k4,k5,sp,t0,i0,f3,f4,es⟩) (h1:=h1) (h2:=h2) (mb:=mb) (ft:=0) (K:=K') hpz hai had hm1 hm2 hrl hlast hsz hsz2 hmx hun hun2 hq F';change pz=false at hpz;change ai=cm at hai;refine aF ⟨false,false⟩ (fun _=>[]) (fun _=>.nil) Tryz.func157 Tryz.ntmps157 rfl rfl ?_;intros;rename_i AR _ CM _ _ _ _ _ _ _ hU _ _ _ hN _ hP;have z0:CM .lt 0 (Int.ofNat 1)=true:=O6;have z1:CM .lt 1 (Int.ofNat 1)=false:=O6;have z2:CM .le 0 0=true:=O6;have x1:AR .add .i64 0 1=1:=O7;have z3:CM .lt 0 1=true:=O6;cbv;repeat' first|exact O5|intro β;cbv|apply O4
 refine hU 2 (by decide+kernel) ?_;cbv;repeat' first|exact O5|intro β;cbv|apply O4
 repeat (any_goals (simp only[z0,z1,x1,z2,z3];try (cbv;repeat' first|exact O5|intro β;cbv|apply O4)))
 refine aD hN [0,1,2,3,8] (by decide) rfl ?_ ?_ (fun F'=>hstep _ F' ?_)
 ·rfl
 ·exact⟨⟨rfl,rfl,rfl,rfl⟩,⟨rfl,rfl,rfl,rfl⟩,⟨rfl,rfl,rfl,rfl⟩,rfl,rfl,trivial⟩
 intro z u a1 a2 a3 a4;have hk:=hQ z u a1 a2 a3 a4;cbv;repeat' first|exact O5|intro β;cbv|apply O4
 repeat (any_goals (simp only[z0,z1,x1,z2,z3];try (cbv;repeat' first|exact O5|intro β;cbv|apply O4)))
 refine hP [(0,0),(1,0),(2,0),(3,0),(4,0),(5,0),(6,0),(7,0)] _ _ _ _ ?_ rfl ?_ hk
 ·rfl
 ·exact(by cbv;repeat' first|exact lg|apply O4|exact rfl|(simp;done))
theorem yI {x:RQ} {g:LGF} {s:STO} {r:RN} {h1 h2 w0 w1 w2 w3 w4 w5 w6:Value} {sy:Bool} {K:SV→List C→Prop}
  (hQ:K (.tup []) (aY x (.v (.slice none 0 0)) (.v (.slice none 0 0)) g {s with hs:=.v h1,sn:=.v h2}++r.cs x.b (.v (.slice none 0 0)))) (F:HProp):
  inS Tryz.prog F 157 [.ptr 4 r.b 0,.agg [.v w0,.v w1,.v w2,.v w3,.v w4,.v w5,.v w6,.bl sy]] (aY x (.v (.slice none 0 0)) (.v (.slice none 0 0)) g {s with hs:=.v h1,sn:=.v h2}++r.cs x.b (.v (.slice none 0 0))) K:=by
 refine inS.view (heap':=aY x (.v (.slice none 0 0)) (.v (.slice none 0 0)) g {s with hs:=.v h1,sn:=.v h2}++r.cs x.b (.sl 7 0 0 0 0 0)++[.prd (.sl true 0 0 0 0 (.sl 176 1 0 []))]) (args':=[.ptr 4 r.b 0,.agg [.v w0,.v w1,.v w2,.v w3,.v w4,.v w5,.v w6,.bl sy]]) ?_ rfl ?_;rotate_left
 ·intro w hs;rw[fJ,aA];have h3:=(gE 209 1 true).ent;have e:((.prd (.sl true 0 0 0 0 (.sl 176 1 0 [])):C)).den=((.prd (.sl true 0 0 0 0 (.sl 176 1 0 [])):C)).den:=rfl;have h4:=(gE 176 1 true).ent w (star (big (aY x (.v (.slice none 0 0)) (.v (.slice none 0 0)) g {s with hs:=.v h1,sn:=.v h2}++r.cs x.b (.v (.slice none 0 0)))) F);simp only[big,aO] at h4;exact h4 (by rw[show (Cel.nil:C).den=emp from rfl,aH];exact hs)
 obtain⟨b,lb,id,tm,vo,st,ld,tg,pn,un,Y⟩:=x;obtain⟨off,cm,ai,ad,mx,sz,pz⟩:=g;obtain⟨sb,hs,sn',nn,eb,ro,cap,n,k0,k1,k2,k3,k4,k5,sp,t0,i0,f3,f4,es⟩:=s;obtain⟨rb,ssb,hb,sl,ss,ht,hv,hc⟩:=r;refine aF ⟨false,false⟩ (fun _=>[]) (fun _=>.nil) Tryz.func157 Tryz.ntmps157 rfl rfl ?_;intros;rename_i ns hns _ _ _ _ _ _ _ _ _ _ _ _ _ _ CM _ _ _ _ _ _ _ hU _ _ _ _ _ hP;have z0:CM .lt 0 (Int.ofNat 0)=false:=O6;have z2:CM .le 0 0=true:=O6;have ens:ns 0 0=0:=by rw[hns]
 cbv;repeat' first|exact O5|intro β;cbv|apply O4
 refine hU 1 (by decide+kernel) ?_;cbv;repeat' first|exact O5|intro β;cbv|apply O4
 repeat (any_goals (simp only[z0,z2];try (cbv;repeat' first|exact O5|intro β;cbv|apply O4)))
 simp only[ens];refine hP [(0,0),(1,0),(2,0),(3,0),(4,0),(5,0),(6,0)] _ _ _ _ ?_ rfl ?_ hQ
 ·rfl
 ·exact(by cbv;repeat' first|exact lg|apply O4|exact rfl|(simp;done))
theorem FQ {x:RQ} {g:LGF} {s:STO} {r:RN} {h1 h2:Value} {mn mb mo mc m:Nat} {rl:List FV} {fa fb fc:FV} {q0 q2 q3 q4 q5 q6 q7 q8 q9 q10 q11 q12 q13:FV} {to:Int} {K:SV→List C→Prop} (htm:1≤x.tm) (hpz:g.pz=false) (hai:0≤g.ai) (hco:g.co≤4398046511104)
  (hld:x.ld≠r.sl) (hce:g.co=g.ai)
  (hK0:aV x g r=true→∀(nsb:Nat),K (.agg [.ptr 5 nsb 0,.v (.pointer none),.v (.slice none 0 0),.v (.slice none 0 0),.v (.pointer none),.v (.slice none 0 0),.sl 7 mn mb mo 1 mc,.bl (mustP ((x.tm,x.vo),r.ht,r.hv))])
   (aY x (.v (.slice none 0 0)) (.v (.slice none 0 0)) g {s with hs:=.v h1,sn:=.v h2}++(RN.mk r.b nsb r.hb x.ld x.st r.ht r.hv r.hc).cs x.b (.v (.slice none 0 0))++[.prd (.sl true mn mb mo mc (.sl 176 1 1 [.st 269 [q0,.oi 22 .u64 (some to),q2,q3,q4,q5,q6,q7,q8,q9,q10,q11,q12,q13]]))]))
  (hK1:aV x g r=false→∀(nsb nhb:Nat),K (.agg [.ptr 5 nsb 0,.ptr 6 nhb 0,.v (.slice none 0 0),.v (.slice none 0 0),.v (.pointer none),.v (.slice none 0 0),.sl 7 mn mb mo 1 mc,.bl (mustP ((x.tm,x.vo),r.ht,r.hv))])
   (aY x (.v (.slice none 0 0)) (.v (.slice none 0 0)) g {s with hs:=.v h1,sn:=.v h2}++(RN.mk r.b nsb nhb x.ld x.st x.tm x.vo g.co).cs x.b (.v (.slice none 0 0))++[.prd (.sl true mn mb mo mc (.sl 176 1 1 [.st 269 [q0,.oi 22 .u64 (some to),q2,q3,q4,q5,q6,q7,q8,q9,q10,q11,q12,q13]]))])) (F:HProp):
  inS Tryz.prog F 148 [.ptr 4 r.b 0] (aY x (.sl 7 mn mb mo 1 mc) (.v (.slice none 0 0)) g {s with hs:=.v h1,sn:=.v h2}++r.cs x.b (.v (.slice none 0 0))++[.prd (.sl true mn mb mo mc (.sl 176 1 1 [.st 269 [q0,.oi 22 .u64 (some to),q2,q3,q4,q5,q6,q7,q8,q9,q10,q11,q12,q13]]))]) K:=by
 obtain⟨b,lb,id,tm,vo,st,ld,tg,pn,un,Y⟩:=x;obtain⟨off,co,ai,ad,mx,sz,pz⟩:=g;obtain⟨sb,hs,sn',nn,eb,ro,cap,n,k0,k1,k2,k3,k4,k5,sp,t0,i0,f3,f4,es⟩:=s;obtain⟨rb,ssb,hb,sl,ss,ht,hv,hc⟩:=r;have hA1:=fun(K':SV→List C→Prop) F' u0 u1=>GR (x:=⟨b,lb,id,tm,vo,st,ld,tg,pn,un,Y⟩) (s:=⟨sb,hs,sn',nn,eb,ro,cap,n,k0,k1,k2,k3,k4,k5,sp,t0,i0,f3,f4,es⟩) (r:=⟨rb,ssb,hb,sl,ss,ht,hv,hc⟩) (h1:=h1) (h2:=h2) (g:=⟨off,co,ai,ad,mx,sz,pz⟩) (mn:=mn) (mb:=mb) (mo:=mo) (mc:=mc) (m:=0) (rl:=[]) (q0:=q0) (q2:=q2) (q3:=q3) (q4:=q4) (q5:=q5) (q6:=q6) (q7:=q7) (q8:=q8) (q9:=q9) (q10:=q10) (q11:=q11) (q12:=q12) (q13:=q13) (to:=to) (K:=K') htm hpz hai hco hld hce u0 u1 F';have hA2:=fun(K':SV→List C→Prop) F' sy w1 w2 nsb nhb u0=>CU (x:=⟨b,lb,id,tm,vo,st,ld,tg,pn,un,Y⟩) (s:=⟨sb,hs,sn',nn,eb,ro,cap,n,k0,k1,k2,k3,k4,k5,sp,t0,i0,f3,f4,es⟩) (r:=⟨rb,ssb,hb,sl,ss,ht,hv,hc⟩) (h1:=h1) (h2:=h2) (g:=⟨off,co,ai,ad,mx,sz,pz⟩) (w1:=w1) (w2:=w2) (sy:=sy) (nsb:=nsb) (nhb:=nhb) (ft:=0) (cn:=0) (cb:=0) (co:=0) (m:=0) (rl:=[]) (fa:=.np) (fb:=.np) (fc:=.np) (mn:=0) (mb:=0) (mo:=0) (mc:=0) (q0:=.np) (q2:=.np) (q3:=.np) (q4:=.np) (q5:=.np) (q6:=.np) (q7:=.np) (q8:=.np) (q9:=.np) (q10:=.np) (q11:=.np) (q12:=.np) (q13:=.np) (to:=0) (K:=K') htm hpz u0 F';have hA3:=fun(K':SV→List C→Prop) F' sy w1 w2 nsb nhb u0=>BD (x:=⟨b,lb,id,tm,vo,st,ld,tg,pn,un,Y⟩) (s:=⟨sb,hs,sn',nn,eb,ro,cap,n,k0,k1,k2,k3,k4,k5,sp,t0,i0,f3,f4,es⟩) (r:=⟨rb,ssb,hb,sl,ss,ht,hv,hc⟩) (h1:=h1) (h2:=h2) (g:=⟨off,co,ai,ad,mx,sz,pz⟩) (w1:=w1) (w2:=w2) (sy:=sy) (nsb:=nsb) (nhb:=nhb) (ft:=0) (cn:=0) (cb:=0) (co:=0) (m:=0) (rl:=[]) (fa:=.np) (fb:=.np) (fc:=.np) (mn:=0) (mb:=0) (mo:=0) (mc:=0) (q0:=.np) (q2:=.np) (q3:=.np) (q4:=.np) (q5:=.np) (q6:=.np) (q7:=.np) (q8:=.np) (q9:=.np) (q10:=.np) (q11:=.np) (q12:=.np) (q13:=.np) (to:=0) (K:=K') htm hpz u0 F';refine aF ⟨false,false⟩ (fun _=>[]) (fun _=>.nil) Tryz.func148 Tryz.ntmps148 rfl rfl ?_;intros;rename_i hN _ hP;cbv;repeat' first|exact O5|intro β;cbv|apply O4
 refine aD hN [0,1,2,3,4,5,6,7] (by decide) rfl ?_ ?_ (fun F'=>hA1 _ F' ?_ ?_)
 ·rfl
 ·exact⟨⟨rfl,rfl,rfl,rfl⟩,⟨rfl,rfl,rfl,rfl⟩,⟨rfl,rfl,rfl,rfl⟩,rfl,⟨rfl,rfl,rfl,rfl⟩,⟨rfl,rfl,rfl,rfl⟩,rfl,rfl,trivial⟩
 ·intro hhb nsb;have hk:=hK0 hhb;cbv;repeat' first|exact O5|intro β;cbv|apply O4
  have hB:=fun K' F' u=>hA2 K' F' (mustP ((tm,vo),ht,hv)) (.slice (slA mn mb mo) 1 mc) (.slice (slA mn mb mo) 1 mc) nsb 0 u;clear hA1 hA2 hA3;refine aD hN [0,1,2,3,4,5,6,10] (by decide) rfl ?_ ?_ (fun F'=>hB _ F' ?_)
  ·rfl
  ·exact⟨⟨rfl,rfl,rfl,rfl⟩,⟨rfl,rfl,rfl,rfl⟩,⟨rfl,rfl,rfl,rfl⟩,rfl,⟨rfl,rfl,rfl,rfl⟩,⟨rfl,rfl,rfl,rfl⟩,rfl,⟨rfl,rfl,rfl,rfl⟩,trivial⟩
  cbv;repeat' first|exact O5|intro β;cbv|apply O4
  refine hP [(0,0),(1,0),(2,0),(3,0),(4,0),(5,0),(6,0),(7,0)] _ _ _ _ ?_ rfl ?_ (hk nsb)
  ·rfl
  ·exact(by cbv;repeat' first|exact lg|apply O4|exact rfl|(simp;done))
 ·intro hhb nsb nhb;have hk:=hK1 hhb;cbv;repeat' first|exact O5|intro β;cbv|apply O4
  have hB:=fun K' F' u=>hA3 K' F' (mustP ((tm,vo),ht,hv)) (.slice (slA mn mb mo) 1 mc) (.slice (slA mn mb mo) 1 mc) nsb nhb u;clear hA1 hA2 hA3;refine aD hN [0,1,2,3,4,5,6,10,11] (by decide) rfl ?_ ?_ (fun F'=>hB _ F' ?_)
  ·rfl
  ·exact⟨⟨rfl,rfl,rfl,rfl⟩,⟨rfl,rfl,rfl,rfl⟩,⟨rfl,rfl,rfl,rfl⟩,rfl,⟨rfl,rfl,rfl,rfl⟩,⟨rfl,rfl,rfl,rfl⟩,rfl,⟨rfl,rfl,rfl,rfl⟩,rfl,trivial⟩
  cbv;repeat' first|exact O5|intro β;cbv|apply O4
  refine hP [(0,0),(1,0),(2,0),(3,0),(4,0),(5,0),(6,0),(7,0)] _ _ _ _ ?_ rfl ?_ (hk nsb nhb)
  ·rfl
  ·exact(by cbv;repeat' first|exact lg|apply O4|exact rfl|(simp;done))
end Go.Sx
