import Derived.Test.YtjikgjdicpggkaaGreatX15
set_option autoImplicit true
set_option relaxedAutoImplicit true
set_option linter.all false
set_option maxRecDepth 100000
set_option maxHeartbeats 4000000
namespace Go.Sx
open Go Go.Proofs
structure ZF where
 sp:Bool
 n:Nat
 b:Nat
 o:Nat
 l:Nat
 c:Nat
 Z:List Int
def yT (x:RF) (o:LL) (lf:Bool) (V:List Int) (P:MQ) (g:LGF) (ro:Int) (ab:Nat) (z:ZF) (s:STO):List C:=
 [DT x (rV x o) lf (yS x.b) nZ (.sl 7 z.n z.b z.o z.l z.c),.prd (.mp x.vb (.set V) none),.prd (.mp x.pb (.ptrs 410 P) none),BT o,oO x.lb 8 s.b g.r,.prd (.h (dL x.wb)),
  .raw true x.ob 398 [.i .i64 ro,.hv 10 (.map (some ab)),.v (.slice none 0 0),.i .u64 0],.prd (.sl z.sp z.n z.b z.o z.c (.ul 3 .i64 z.l z.Z)),s.raw 9,s.row,.prd (.h (dL ab))]
theorem s169 {c:CFG} (hc:c.ok) {cb zn zb zo zl zc hsb mb:Nat} {spz:Bool} {Z:List Int} {s:STO} {V L:List Int} {nv nl m:Nat} {d:Option (List UInt8)} {tm vo co ix it rt2 nx2 off1 apv:Int} {K:SV→List C→Prop}
  (hcc:ccP V L) (hV9:V.length≤9) (hL4:L.length≤4) (hnv:nv=V.length) (hnl:nl=L.length) (hs0:0≤s.i0) (hs1:s.i0≤1099511627776) (hsn1:1≤s.n) (hsn2:s.n≤100000) (hzl:zl≤1000) (hrt:rt2=EB c.et (rndP (Z,zl,0,c.et))) (hnx3:nx2=nxP (zl,0)) (hi1:1≤s.i0) (htm:1≤tm) (hco0:s.i0≤co) (hco1:co≤s.i0+s.n-1) (hap0:c.ap=0∨s.i0≤c.ap∧c.ap≤co) (hlast:∃tl a b c,nth (GQ s::s.es) (s.n-1)=.st 212 [.oi 22 .u64 (some tl),a,b,c]) (hoff:off1=s.i0+s.n) (hapv:apv=if c.ap=0 then s.i0 else c.ap)
  (hKK:∀(b lb vb pb wb ob ab:Nat) (lf:Bool) (o:LL) (P2:MQ) (d0 d1 d2 d3 d4 d5:Int),TrkOK V L P2→LLOK L o→
   K (.ptr 11 b 0) ([c.raw cb s.b zn zb zo zl zc 18446744073709551615 18446744073709551615]++(yT ⟨b,c.id,tm,vo,lb,c.ms,vb,pb,wb,c.mi,0,c.cq,c.pv,c.ht,c.et,rt2,c.nf,c.sd,ob,nx2⟩ o lf V P2 ⟨off1,co,apv,apv,c.mc,0,false⟩ c.ro ab ⟨spz,zn,zb,zo,zl,zc,Z⟩
    ⟨s.b,.v (.pointer (some ⟨hsb,0,none⟩)),.v (.pointer (some ⟨mb,0,none⟩)),s.nn,s.eb,s.off,s.cap,s.n,d0,d1,d2,d3,d4,d5,s.sp,s.t0,s.i0,s.f3,s.f4,s.es⟩).tail++[(yT ⟨b,c.id,tm,vo,lb,c.ms,vb,pb,wb,c.mi,0,c.cq,c.pv,c.ht,c.et,rt2,c.nf,c.sd,ob,nx2⟩ o lf V P2 ⟨off1,co,apv,apv,c.mc,0,false⟩ c.ro ab ⟨spz,zn,zb,zo,zl,zc,Z⟩
    ⟨s.b,.v (.pointer (some ⟨hsb,0,none⟩)),.v (.pointer (some ⟨mb,0,none⟩)),s.nn,s.eb,s.off,s.cap,s.n,d0,d1,d2,d3,d4,d5,s.sp,s.t0,s.i0,s.f3,s.f4,s.es⟩).head?.getD .nil])) (F:HProp):
  inS Tryz.prog F 169 [.ptr 0 cb 0] [c.raw cb s.b zn zb zo zl zc 0 0,STO.raw {s with hs:=.ptr 3 hsb 0,sn:=.ptr 4 mb 0} 2,s.row,.prd (.st hsb 226 (oN tm vo co)),.prd (.st mb 223 [.bys 5 m d,.st 221 (L3 ⟨(nv,V),(nl,L),(0,[]),(0,[]),some false⟩ ix it)]),.prd (.sl spz zn zb zo zc (.ul 3 .i64 zl Z))] K:=by
 obtain⟨id,et,ht,ap,ms,mc,mi,cq,pv,ro,nf,sd⟩:=c;obtain⟨b,hs,sn',nn,eb,off,cap,n,k0,k1,k2,k3,k4,k5,sp,t0,i0,f3,f4,es⟩:=s;change off1=i0+(n:Int) at hoff;change apv=if ap=0 then i0 else ap at hapv
 change rt2=EB et (rndP (Z,zl,0,et)) at hrt;change 1≤i0 at hi1;change i0≤co at hco0;change co≤i0+(n:Int)-1 at hco1;change ap=0∨i0≤ap∧ap≤co at hap0;change 0≤i0 at hs0;change i0≤1099511627776 at hs1;change 1≤n at hsn1;change n≤100000 at hsn2;obtain⟨tl,fa,fb,fc,hlast⟩:=hlast;change nth (.st 212 [.oi 22 .u64 (some t0),.oi 22 .u64 (some i0),f3,f4]::es) (n-1)=.st 212 [.oi 22 .u64 (some tl),fa,fb,fc] at hlast;refine aF ⟨false,false⟩ (fun TX=>[r220 TX,r221,r222,fZ,OG,OE TX,vB TX,r272 TX,fH,fL,fQ,r120,r125,r278,r329 TX,r224,r345 TX]) (fun _=>(.cons x220 (.cons x221 (.cons x222 (.cons gJ (.cons NY (.cons NX (.cons uH (.cons x272 (.cons fG (.cons fE (.cons fP (.cons x120 (.cons x125 (.cons x278 (.cons x329 (.cons x224 (.cons x345 .nil)))))))))))))))))) Tryz.func169 Tryz.ntmps169 rfl rfl ?_;intros;rename_i tk _ _ _ _ _ _ _ _ _ _ _ _ _ _ _ _ _ _ _ _ _ _ _ _ _ _ _ TX hTX _ _ AR hA CM hC _ _ _ _ _ _ hU hI hL _ hN hsat hP;obtain⟨tz,tls,tt,to,apx⟩:=TX;have hap:∀{α β:Type} (f:α→β) (x:α),apx f x=f x:=fun f x=>congrArg (fun t:TF=>t.ap f x) hTX;have p0:∀k,gT k (apx bQ k):=fun k=>⟨by rw[hap];rfl⟩;have o1:OLog i0 n (apx jR (i0,n)):=⟨hs0,by omega,by rw[hap];rfl,hsn1⟩;obtain⟨h1,h2,h3,h4,h5,h6,h7,h8,h9,h10,h11⟩:=hc;change 0<id at h1;change id<1099511627776 at h2;change 1≤ht at h3;change ht<et at h4;change et≤30 at h5;change 1048576≤ms at h6;change 1048576≤mc at h7;change 1≤mi at h8;change mi≤100 at h9;change ro=0∨ro=1 at h10;change ro=1→cq=true at h11;have c1:CM .eq id 0=false:=O6;have c2:CM .eq id 18446744073709551615=false:=O6;have c3:CM .eq id 18446744073709551614=false:=O6;have c4:CM .le ht 0=false:=O6;have c5:CM .le et ht=false:=O6;have c6:CM .eq 0 0=true:=O6;have c7:CM .eq mc 0=false:=O6;have c8:CM .le mi 0=false:=O6;have c9:CM .eq 0 1=false:=O6;have c10:CM .eq 1 1=true:=O6;have o2:xF i0 n (apx dK (i0,n)):=⟨hs0,by omega,by rw[hap];rfl,hsn1⟩;have o3:OTrm i0 t0 n f3 f4 es (apx jR (i0,n)) (apx dK (i0,n)) (apx BU (.st 212 [.oi 22 .u64 (some t0),.oi 22 .u64 (some i0),f3,f4]::es,apx dK (i0,n),i0)):=by
  have e1:apx dK (i0,n)=i0+n-1:=by rw[hap];rfl
  have e2:apx jR (i0,n)=i0+n:=by rw[hap];rfl
  have e3:(apx dK (i0,n)-i0).toNat=n-1:=by rw[e1];omega
  refine⟨hs0,by omega,by rw[e1,e2];omega,by rw[e1];omega,by rw[e1];omega,fa,fb,fc,?_⟩;rw[e3,hlast,hap];simp only[BU,e3,hlast]
 have o4:O224 V L nv nl:=⟨hcc,hnv,hnl⟩;have oV:BJ V (apx List.length V) (apx srtI V):=⟨by rw[hap],by rw[hap];omega,by rw[hap]⟩;have oL:BJ L (apx List.length L) (apx srtI L):=⟨by rw[hap],by rw[hap];omega,by rw[hap]⟩;have hae:apx jR (i0,n)=off1:=by rw[hap,hoff];rfl
 obtain⟨la,hla⟩:∃la,apx dK (i0,n)=la:=⟨_,rfl⟩;have hla2:la=i0+(n:Int)-1:=by rw[←hla,hap];rfl
 have d1:CM .eq tm 0=false:=O6;have d2:CM .lt co i0=false:=O6;have d3:CM .lt la co=false:=O6;have d4:CM .lt 0 0=false:=O6;have d5:CM .le mc 0=false:=O6;have d6:CM .lt 0 ap=false∧ap=0∨CM .lt 0 ap=true∧CM .lt co ap=false∧CM .lt ap i0=false∧AR .max .u64 i0 ap=ap:=by
  rcases hap0 with h|h
  ·left;refine⟨?_,h⟩;rw[hC,h];rfl
  ·right;rw[hC,hA];simp only[cmStd,arStd,decide_eq_true_eq,decide_eq_false_iff_not];refine⟨by omega,by omega,by omega,?_⟩;split<;>omega
 cbv;repeat' first|exact O5|intro β;cbv|apply O4|apply p0;done
 refine EF hN (fun F'=>s219 (c:=⟨id,et,ht,ap,ms,mc,mi,cq,pv,ro,nf,sd⟩) ⟨h1,h2,h3,h4,h5,h6,h7,h8,h9,h10,h11⟩ (cb:=cb) (sb:=b) (zn:=zn) (zb:=zb) (zo:=zo) (zl:=zl) (zc:=zc) ?_ F');cbv;repeat' first|exact O5|intro β;cbv|apply O4|apply p0;done
 refine inl @hI Tryz.func451 Tryz.ntmps451 rfl rfl ?_;cbv;repeat' first|exact O5|intro β;cbv|apply O4|apply p0;done
 refine inl @hI Tryz.func217 Tryz.ntmps217 rfl rfl ?_;cbv;repeat' first|exact O5|intro β;cbv|apply O4|apply p0;done
 refine inl @hI Tryz.func223 Tryz.ntmps223 rfl rfl ?_;cbv;repeat' first|exact O5|intro β;cbv|apply O4|apply p0;done
 ·(generalize β 8 2=z;cases z<;>rfl)
 rename_i b12 b11 b10 b9 b8 b7 b6 b5 b4 b3 b2 b1 bR;refine in_tk hN 27 (q:=bR 8 1) (V:=V) (L:=L) rfl rfl ⟨_,rfl,by decide+kernel,by decide⟩ (fun P' hP'=>?_);rcases hb:bR 8 2 with _|_
 ·have hOO:LLOK L none:=(by assumption:bR 8 2=0→L=[]) hb;simp only[hb];refine aD hN [22,26,27,28,6,18,20,5,1,2] (by decide) rfl ?_ ?_ (s226 (C4:=oO (b12 8 0) 8 b (LGF.r ⟨apx jR (i0,n),i0,i0,i0,mc,0,false⟩)) (C5:=?a5) (C6:=.raw true (b6 46 0) 398 [.i .i64 ro,.v (.map (some (b6 46 1))),.v (.slice none 0 0),.v (.int .u64 0)]) (C7:=?a7) (C8:=STO.raw ⟨b,.v (.pointer (some ⟨hsb,0,none⟩)),.v (.pointer (some ⟨mb,0,none⟩)),nn,eb,off,cap,n,AR .add .i64 k0 1,apx bQ (apx bQ k1),apx bQ (apx bQ (apx bQ k2)),k3,apx bQ k4,k5,sp,t0,i0,f3,f4,es⟩ 9) (C9:=?a9) (x:=⟨b6 60 0,id,0,0,b12 8 0,ms,bR 8 0,bR 8 1,b6 21 2,mi,0,cq,pv,ht,et,0,nf,sd,b6 46 0,0⟩) (V:=V) (L:=L) (P':=P') (o:=none) (t0:=.map (some (b6 21 0))) (t1:=.map none) (t2:=.bool false) (t3:=.map none) (t4:=.map none) (t5:=.map (some (b6 21 1))) (tk:=.nilFunc) (st:=.nilFunc) (zn:=zn) (zb:=zb) (zo:=zo) (zl:=zl) (zc:=zc) hP' hOO (by omega) (by omega) ?_)
  ·rfl
  ·refine⟨⟨rfl,rfl,rfl,rfl⟩,rfl,rfl,?_,?_,?_,?_,?_,?_,?_,trivial⟩
   all_goals first|exact trivial|exact aT _|exact⟨rfl,rfl,rfl,rfl⟩
  intro lf P2 cfb nv' nl' hT2 hnv2 hnl2;have o5:MI nv nl nv' nl' V L (srtI V) (srtI L):=⟨by omega,by omega,by omega,by omega,jJ (List.mergeSort_perm V _).symm,jJ (List.mergeSort_perm L _).symm,hnv.symm,by rw[fC];omega,hnl.symm,by rw[fC];omega⟩;generalize srtI V=S1 at o5⊢;generalize srtI L=S2 at o5⊢;cbv;repeat' first|exact O5|intro β;cbv|apply O4|apply p0;done
  repeat (first|(refine inl @hI Tryz.func225 Tryz.ntmps225 rfl rfl ?_;cbv;repeat' first|exact O5|intro β;cbv|apply O4|apply p0;done)|(refine inl @hI Tryz.func152 Tryz.ntmps152 rfl rfl ?_;cbv;repeat' first|exact O5|intro β;cbv|apply O4|apply p0;done)|(refine inl @hI Tryz.func207 Tryz.ntmps207 rfl rfl ?_;cbv;repeat' first|exact O5|intro β;cbv|apply O4|apply p0;done)|(refine inl @hI Tryz.func196 Tryz.ntmps196 rfl rfl ?_;cbv;repeat' first|exact O5|intro β;cbv|apply O4|apply p0;done))
  repeat (any_goals (simp only[d1];try (cbv;repeat' first|exact O5|intro β;cbv|apply O4|apply p0;done)))
  repeat (first|(refine inl @hI Tryz.func227 Tryz.ntmps227 rfl rfl ?_;cbv;repeat' first|exact O5|intro β;cbv|apply O4|apply p0;done))
  repeat (any_goals (simp only[d2,hla,d3];try (cbv;repeat' first|exact O5|intro β;cbv|apply O4|apply p0;done)))
  rcases d6 with ⟨e1,e2⟩|⟨e1,e2,e3,e4⟩
  ·repeat (any_goals (simp only[e1];try (cbv;repeat' first|exact O5|intro β;cbv|apply O4|apply p0;done)))
   rw[if_pos e2] at hapv;replace hapv:=hapv.symm;subst hapv
   refine aD hN [22,26,27,28,6,18,20,5,1,2] (by decide) rfl ?_ ?_ (CX (x:=⟨b6 60 0,id,tm,vo,b12 8 0,ms,bR 8 0,bR 8 1,b6 21 2,mi,0,cq,pv,ht,et,0,nf,sd,b6 46 0,0⟩) (lf:=lf) (o:=none) (tkv:=.v .nilFunc) (st:=.v .nilFunc) (V:=V) (L:=L) (P':=P2) (s:=⟨b,.v (.pointer (some ⟨hsb,0,none⟩)),.v (.pointer (some ⟨mb,0,none⟩)),nn,eb,off,cap,n,AR .add .i64 k0 1,apx bQ (apx bQ k1),apx bQ (apx bQ (apx bQ (apx bQ k2))),k3,apx bQ k4,k5,sp,t0,i0,f3,f4,es⟩)
    (g:=⟨apx jR (i0,n),co,i0,i0,mc,0,false⟩) (h1:=.pointer (some ⟨hsb,0,none⟩)) (h2:=.pointer (some ⟨mb,0,none⟩)) (zn:=zn) (zb:=zb) (zo:=zo) (zl:=zl) (zc:=zc) (spz:=spz) (Z:=Z) (ro:=ro) (w1:=.map (some (b6 46 1))) (w2:=.slice none 0 0) (w3:=.int .u64 0) (t:=tm) (v:=vo) (ld:=0) (rt2:=rt2) (nx2:=nx2) (C5:=?u1) hT2 (by omega) hs0 hs1 hsn1 hsn2 (by simp) (Int.le_refl _) (by show (0:Int)<1099511627776;omega) hzl hrt hnx3 (by show 0<et;omega) (by show et≤1000;omega) ?_)
   ·rfl
   ·refine⟨⟨rfl,rfl,rfl,rfl⟩,rfl,rfl,?_,?_,?_,?_,?_,?_,?_,trivial⟩
    all_goals first|exact trivial|exact aT _|exact⟨rfl,rfl,rfl,rfl⟩
   intro P3 d2 wb ob ab hT3;have hk:=fun q0 q1 q3 q4 q5=>hKK (b6 60 0) (b12 8 0) (bR 8 0) (bR 8 1) wb ob ab lf none P3 q0 q1 d2 q3 q4 q5 hT3 hOO;cbv;repeat' first|exact O5|intro β;cbv|apply O4|apply p0;done
   simp only[hae];refine hP [(0,0),(26,0),(27,0),(28,0),(6,0),(18,0),(20,0),(5,0),(1,0),(2,0),(35,0),(22,0)] _ _ _ _ ?_ rfl ?_ (hk ?k1 ?k2 ?k3 ?k4 ?k5)
   ·rfl
   ·exact aP
  ·repeat (any_goals (simp only[e1];try (cbv;repeat' first|exact O5|intro β;cbv|apply O4|apply p0;done)))
   have hne:ap≠0:=by intro h;rw[h,hC] at e1;simp[cmStd] at e1
   rw[if_neg hne] at hapv;replace hapv:=hapv.symm;subst hapv
   repeat (first|(refine inl @hI Tryz.func228 Tryz.ntmps228 rfl rfl ?_;cbv;repeat' first|exact O5|intro β;cbv|apply O4|apply p0;done))
   repeat (any_goals (simp only[e2,e3,e4,d4,d5];try (cbv;repeat' first|exact O5|intro β;cbv|apply O4|apply p0;done)))
   refine aD hN [22,26,27,28,6,18,20,5,1,2] (by decide) rfl ?_ ?_ (CX (x:=⟨b6 60 0,id,tm,vo,b12 8 0,ms,bR 8 0,bR 8 1,b6 21 2,mi,0,cq,pv,ht,et,0,nf,sd,b6 46 0,0⟩) (lf:=lf) (o:=none) (tkv:=.v .nilFunc) (st:=.v .nilFunc) (V:=V) (L:=L) (P':=P2) (s:=⟨b,.v (.pointer (some ⟨hsb,0,none⟩)),.v (.pointer (some ⟨mb,0,none⟩)),nn,eb,off,cap,n,AR .add .i64 k0 1,apx bQ (apx bQ k1),apx bQ (apx bQ (apx bQ (apx bQ k2))),k3,apx bQ k4,k5,sp,t0,i0,f3,f4,es⟩)
    (g:=⟨apx jR (i0,n),co,ap,ap,mc,0,false⟩) (h1:=.pointer (some ⟨hsb,0,none⟩)) (h2:=.pointer (some ⟨mb,0,none⟩)) (zn:=zn) (zb:=zb) (zo:=zo) (zl:=zl) (zc:=zc) (spz:=spz) (Z:=Z) (ro:=ro) (w1:=.map (some (b6 46 1))) (w2:=.slice none 0 0) (w3:=.int .u64 0) (t:=tm) (v:=vo) (ld:=0) (rt2:=rt2) (nx2:=nx2) (C5:=?u2) hT2 (by omega) hs0 hs1 hsn1 hsn2 (by simp) (Int.le_refl _) (by show (0:Int)<1099511627776;omega) hzl hrt hnx3 (by show 0<et;omega) (by show et≤1000;omega) ?_)
   ·rfl
   ·refine⟨⟨rfl,rfl,rfl,rfl⟩,rfl,rfl,?_,?_,?_,?_,?_,?_,?_,trivial⟩
    all_goals first|exact trivial|exact aT _|exact⟨rfl,rfl,rfl,rfl⟩
   intro P3 d2 wb ob ab hT3;have hk:=fun q0 q1 q3 q4 q5=>hKK (b6 60 0) (b12 8 0) (bR 8 0) (bR 8 1) wb ob ab lf none P3 q0 q1 d2 q3 q4 q5 hT3 hOO;cbv;repeat' first|exact O5|intro β;cbv|apply O4|apply p0;done
   simp only[hae];refine hP [(0,0),(26,0),(27,0),(28,0),(6,0),(18,0),(20,0),(5,0),(1,0),(2,0),(35,0),(22,0)] _ _ _ _ ?_ rfl ?_ (hk ?k6 ?k7 ?k8 ?k9 ?k0)
   ·rfl
   ·exact aP
 ·have hOO:LLOK L (some (bR 8 3,L)):=rfl;simp only[hb];refine aD hN [22,26,27,28,6,18,20,5,1,2] (by decide) rfl ?_ ?_ (s226 (C4:=oO (b12 8 0) 8 b (LGF.r ⟨apx jR (i0,n),i0,i0,i0,mc,0,false⟩)) (C5:=?y5) (C6:=.raw true (b6 46 0) 398 [.i .i64 ro,.v (.map (some (b6 46 1))),.v (.slice none 0 0),.v (.int .u64 0)]) (C7:=?y7) (C8:=STO.raw ⟨b,.v (.pointer (some ⟨hsb,0,none⟩)),.v (.pointer (some ⟨mb,0,none⟩)),nn,eb,off,cap,n,AR .add .i64 k0 1,apx bQ (apx bQ k1),apx bQ (apx bQ (apx bQ k2)),k3,apx bQ k4,k5,sp,t0,i0,f3,f4,es⟩ 9) (C9:=?y9) (x:=⟨b6 60 0,id,0,0,b12 8 0,ms,bR 8 0,bR 8 1,b6 21 2,mi,0,cq,pv,ht,et,0,nf,sd,b6 46 0,0⟩) (V:=V) (L:=L) (P':=P') (o:=(some (bR 8 3,L))) (t0:=.map (some (b6 21 0))) (t1:=.map none) (t2:=.bool false) (t3:=.map none) (t4:=.map none) (t5:=.map (some (b6 21 1))) (tk:=.nilFunc) (st:=.nilFunc) (zn:=zn) (zb:=zb) (zo:=zo) (zl:=zl) (zc:=zc) hP' hOO (by omega) (by omega) ?_)
  ·rfl
  ·refine⟨⟨rfl,rfl,rfl,rfl⟩,rfl,rfl,?_,?_,?_,?_,?_,?_,?_,trivial⟩
   all_goals first|exact trivial|exact aT _|exact⟨rfl,rfl,rfl,rfl⟩
  intro lf P2 cfb nv' nl' hT2 hnv2 hnl2;have o5:MI nv nl nv' nl' V L (srtI V) (srtI L):=⟨by omega,by omega,by omega,by omega,jJ (List.mergeSort_perm V _).symm,jJ (List.mergeSort_perm L _).symm,hnv.symm,by rw[fC];omega,hnl.symm,by rw[fC];omega⟩;generalize srtI V=S1 at o5⊢;generalize srtI L=S2 at o5⊢;cbv;repeat' first|exact O5|intro β;cbv|apply O4|apply p0;done
  repeat (first|(refine inl @hI Tryz.func225 Tryz.ntmps225 rfl rfl ?_;cbv;repeat' first|exact O5|intro β;cbv|apply O4|apply p0;done)|(refine inl @hI Tryz.func152 Tryz.ntmps152 rfl rfl ?_;cbv;repeat' first|exact O5|intro β;cbv|apply O4|apply p0;done)|(refine inl @hI Tryz.func207 Tryz.ntmps207 rfl rfl ?_;cbv;repeat' first|exact O5|intro β;cbv|apply O4|apply p0;done)|(refine inl @hI Tryz.func196 Tryz.ntmps196 rfl rfl ?_;cbv;repeat' first|exact O5|intro β;cbv|apply O4|apply p0;done))
  repeat (any_goals (simp only[d1];try (cbv;repeat' first|exact O5|intro β;cbv|apply O4|apply p0;done)))
  repeat (first|(refine inl @hI Tryz.func227 Tryz.ntmps227 rfl rfl ?_;cbv;repeat' first|exact O5|intro β;cbv|apply O4|apply p0;done))
  repeat (any_goals (simp only[d2,hla,d3];try (cbv;repeat' first|exact O5|intro β;cbv|apply O4|apply p0;done)))
  rcases d6 with ⟨e1,e2⟩|⟨e1,e2,e3,e4⟩
  ·repeat (any_goals (simp only[e1];try (cbv;repeat' first|exact O5|intro β;cbv|apply O4|apply p0;done)))
   rw[if_pos e2] at hapv;replace hapv:=hapv.symm;subst hapv
   refine aD hN [22,26,27,28,6,18,20,5,1,2] (by decide) rfl ?_ ?_ (CX (x:=⟨b6 60 0,id,tm,vo,b12 8 0,ms,bR 8 0,bR 8 1,b6 21 2,mi,0,cq,pv,ht,et,0,nf,sd,b6 46 0,0⟩) (lf:=lf) (o:=(some (bR 8 3,L))) (tkv:=.v .nilFunc) (st:=.v .nilFunc) (V:=V) (L:=L) (P':=P2) (s:=⟨b,.v (.pointer (some ⟨hsb,0,none⟩)),.v (.pointer (some ⟨mb,0,none⟩)),nn,eb,off,cap,n,AR .add .i64 k0 1,apx bQ (apx bQ k1),apx bQ (apx bQ (apx bQ (apx bQ k2))),k3,apx bQ k4,k5,sp,t0,i0,f3,f4,es⟩)
    (g:=⟨apx jR (i0,n),co,i0,i0,mc,0,false⟩) (h1:=.pointer (some ⟨hsb,0,none⟩)) (h2:=.pointer (some ⟨mb,0,none⟩)) (zn:=zn) (zb:=zb) (zo:=zo) (zl:=zl) (zc:=zc) (spz:=spz) (Z:=Z) (ro:=ro) (w1:=.map (some (b6 46 1))) (w2:=.slice none 0 0) (w3:=.int .u64 0) (t:=tm) (v:=vo) (ld:=0) (rt2:=rt2) (nx2:=nx2) (C5:=?v1) hT2 (by omega) hs0 hs1 hsn1 hsn2 (by simp) (Int.le_refl _) (by show (0:Int)<1099511627776;omega) hzl hrt hnx3 (by show 0<et;omega) (by show et≤1000;omega) ?_)
   ·rfl
   ·refine⟨⟨rfl,rfl,rfl,rfl⟩,rfl,rfl,?_,?_,?_,?_,?_,?_,?_,trivial⟩
    all_goals first|exact trivial|exact aT _|exact⟨rfl,rfl,rfl,rfl⟩
   intro P3 d2 wb ob ab hT3;have hk:=fun q0 q1 q3 q4 q5=>hKK (b6 60 0) (b12 8 0) (bR 8 0) (bR 8 1) wb ob ab lf (some (bR 8 3,L)) P3 q0 q1 d2 q3 q4 q5 hT3 hOO;cbv;repeat' first|exact O5|intro β;cbv|apply O4|apply p0;done
   simp only[hae];refine hP [(0,0),(26,0),(27,0),(28,0),(6,0),(18,0),(20,0),(5,0),(1,0),(2,0),(35,0),(22,0)] _ _ _ _ ?_ rfl ?_ (hk ?l1 ?l2 ?l3 ?l4 ?l5)
   ·rfl
   ·exact aP
  ·repeat (any_goals (simp only[e1];try (cbv;repeat' first|exact O5|intro β;cbv|apply O4|apply p0;done)))
   have hne:ap≠0:=by intro h;rw[h,hC] at e1;simp[cmStd] at e1
   rw[if_neg hne] at hapv;replace hapv:=hapv.symm;subst hapv
   repeat (first|(refine inl @hI Tryz.func228 Tryz.ntmps228 rfl rfl ?_;cbv;repeat' first|exact O5|intro β;cbv|apply O4|apply p0;done))
   repeat (any_goals (simp only[e2,e3,e4,d4,d5];try (cbv;repeat' first|exact O5|intro β;cbv|apply O4|apply p0;done)))
   refine aD hN [22,26,27,28,6,18,20,5,1,2] (by decide) rfl ?_ ?_ (CX (x:=⟨b6 60 0,id,tm,vo,b12 8 0,ms,bR 8 0,bR 8 1,b6 21 2,mi,0,cq,pv,ht,et,0,nf,sd,b6 46 0,0⟩) (lf:=lf) (o:=(some (bR 8 3,L))) (tkv:=.v .nilFunc) (st:=.v .nilFunc) (V:=V) (L:=L) (P':=P2) (s:=⟨b,.v (.pointer (some ⟨hsb,0,none⟩)),.v (.pointer (some ⟨mb,0,none⟩)),nn,eb,off,cap,n,AR .add .i64 k0 1,apx bQ (apx bQ k1),apx bQ (apx bQ (apx bQ (apx bQ k2))),k3,apx bQ k4,k5,sp,t0,i0,f3,f4,es⟩)
    (g:=⟨apx jR (i0,n),co,ap,ap,mc,0,false⟩) (h1:=.pointer (some ⟨hsb,0,none⟩)) (h2:=.pointer (some ⟨mb,0,none⟩)) (zn:=zn) (zb:=zb) (zo:=zo) (zl:=zl) (zc:=zc) (spz:=spz) (Z:=Z) (ro:=ro) (w1:=.map (some (b6 46 1))) (w2:=.slice none 0 0) (w3:=.int .u64 0) (t:=tm) (v:=vo) (ld:=0) (rt2:=rt2) (nx2:=nx2) (C5:=?v2) hT2 (by omega) hs0 hs1 hsn1 hsn2 (by simp) (Int.le_refl _) (by show (0:Int)<1099511627776;omega) hzl hrt hnx3 (by show 0<et;omega) (by show et≤1000;omega) ?_)
   ·rfl
   ·refine⟨⟨rfl,rfl,rfl,rfl⟩,rfl,rfl,?_,?_,?_,?_,?_,?_,?_,trivial⟩
    all_goals first|exact trivial|exact aT _|exact⟨rfl,rfl,rfl,rfl⟩
   intro P3 d2 wb ob ab hT3;have hk:=fun q0 q1 q3 q4 q5=>hKK (b6 60 0) (b12 8 0) (bR 8 0) (bR 8 1) wb ob ab lf (some (bR 8 3,L)) P3 q0 q1 d2 q3 q4 q5 hT3 hOO;cbv;repeat' first|exact O5|intro β;cbv|apply O4|apply p0;done
   simp only[hae];refine hP [(0,0),(26,0),(27,0),(28,0),(6,0),(18,0),(20,0),(5,0),(1,0),(2,0),(35,0),(22,0)] _ _ _ _ ?_ rfl ?_ (hk ?l6 ?l7 ?l8 ?l9 ?l0)
   ·rfl
   ·exact aP
end Go.Sx
