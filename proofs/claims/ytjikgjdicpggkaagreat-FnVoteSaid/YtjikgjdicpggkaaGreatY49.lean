import Derived.Below
import Derived.Deep.Slices
import Derived.Handed
import Derived.ProofKit
import Derived.Test.YtjikgjdicpggkaaGreatY48
set_option autoImplicit true
set_option relaxedAutoImplicit true
set_option linter.all false
set_option maxRecDepth 100000
set_option maxHeartbeats 4000000
namespace Go.Sx
open Go Go.Proofs
theorem AU {f:Nat→Value} (h:((List.range 5).all fun k=>(f k).oneCell')=true) (k:Nat) (hk:k<5):(f k).oneCell'=true:=by rw[List.all_eq_true] at h;exact h k (List.mem_range.2 hk)
theorem s25 {e:cR} {p:PW} {c:Nat} {m:tT} {sx:ByteArray} {K:SV→List C→Prop} (hfz:e.frz) (hd:(CS e p c m sx).ok) (hc:c=0∨c=1∨c=2∨c=3) (hfl:e.fl=entR e.es) (hes:e.es.length=e.ln) (hn:e.ln≤30)
  (hp:p.LD=0∧p.T=e.tm∧p.VO=e.vo∧p.CO=e.co)
  (hans:(e.cq||e.pv)=true→m.k≠5→c=2∧p.mf.k=4∧p.mf.to=some m.fr∧p.mf.fr=some e.id∧p.mf.tm=some e.tm)
  (hno:¬((e.cq||e.pv)=true∧m.k≠5)→c=0∨c=3)
  (hQ:K (.bl true) e.rows) (F:HProp):inS Tryz.prog F 25 [.agg (e.cs 0 1 2 3 4 5),m.arg sx] e.rows K:=by
 have hB:=fun(K':SV→List C→Prop) F' u=>s28m (K:=K') hfz hd hc u F';obtain⟨id,et,ht,⟨zp,zn,zb,zo,zl,zc,Z⟩,pv,cq,ls,nf,sd,ms,mc,mi,data,ix,it,⟨vp,vnn,vb,vof,vcap,vn,V⟩,⟨lp,lnn',lb',lof,lcap,en',L⟩,⟨op',onn,ob,oof,ocap,on,O⟩,⟨xp,xnn,xb,xof,xcap,xn,X⟩,lsp,lnn,lb,lo,lc,ll,es,fl,tm,vo,co,ap⟩:=e;obtain⟨k,to',fr,mtm,lt,mix,cm⟩:=m;change fl=entR es at hfl;change es.length=ll at hes;change ll≤30 at hn;refine aF ⟨false,false⟩ (fun _=>[r26,r29]) (fun _=>(.cons x26 (.cons x29 .nil))) Tryz.func25 Tryz.ntmps25 rfl rfl ?_;intros;rename_i sn _ _ _ _ _ _ _ _ _ _ _ ns _ _ _ _ hNF _ hE _ hmu TX _ _ _ _ _ CM hC _ _ _ _ _ _ _ hI _ _ hN _ hP;obtain⟨tz,tls,tt,to0,apx⟩:=TX;have o26:∀W:Nat→Value,(∀k,k<26→(W k).oneCell'=true)→O26 ⟨W,id,tm,vo,co,ix,it,data,lsp,lnn,lb,lo,lc,ll,fl⟩:=fun W h=>⟨by show ll≤4294967000;omega,h⟩;cbv;repeat' first|exact O5|intro β;cbv|apply O4
 refine aD hN [0,1,2,3,4,5] (by decide) rfl ?_ ?_ (fun F1=>hB _ F1 (fun x sn sb so sc ns sf n1 b1 o1 c1 nl les hx=>?_))
 ·rfl
 ·exact⟨rfl,rfl,rfl,rfl,rfl,rfl,trivial⟩
 obtain⟨x1,x2,x3,x4,x5,x6,x7,x8,x9,x10⟩:=hx;obtain⟨ro,xld,xt,xv,xc,xap,xtg,s9,s10,s11,s12,has,hh,st,sv,xsc,s23,s24,s25,s26,s28,s29,sy,s32⟩:=x;obtain⟨p1,p2,p3,p4⟩:=hp;change ro=0 at x1;change xld=p.LD at x2;change xt=p.T at x3;change xv=p.VO at x4;change xc=p.CO at x5;change has=true→nl=ll∧les=es at x6;rw[p1] at x2;rw[p2] at x3;rw[p3] at x4;rw[p4] at x5;change xt=tm at x3;change xv=vo at x4;change xc=co at x5;subst x1;subst x2;subst x3;subst x4;subst x5;clear x7 p1 p2 p3 p4 hd hfz;obtain⟨fl2,hf2⟩:∃f,f=entR les:=⟨_,rfl⟩;have o8:has=true→nl=ll∧fl2=fl∧∃es:List EN,fl2=entR es∧es.length=nl∧nl≤100000:=fun h=>by obtain⟨a,b⟩:=x6 h;exact⟨a,by rw[hf2,b,hfl],les,hf2,by rw[b,a];exact hes,by omega⟩
 rw[←hf2];clear x6;cbv;repeat' first|exact O5|intro β;cbv|apply O4
 all_goals first|exact o26 _ (sN rfl)|exact⟨rfl,rfl,rfl,rfl,rfl,AU rfl,rfl,o8⟩|skip
 cases cq with
 |false=>
  cases pv with
  |false=>
   have h0:=x10 (hno (fun h=>by cases h.1));have q1:CM .eq (Int.ofNat ns) 0=true:=by rw[hC,h0];rfl
   cbv;repeat' first|exact O5|intro β;cbv|apply O4
   repeat (any_goals (simp only[hE,q1];try (cbv;repeat' first|exact O5|intro β;cbv|apply O4)))
   refine hP [(0,0),(1,0),(2,0),(3,0),(4,0),(5,0)] _ _ _ _ ?_ rfl ?_ hQ
   ·rfl
   ·exact aP
  |true=>
   rcases hk5:CM .ne k 5 with _|_
   ·have h5:k=5:=by rw[hC] at hk5;simpa [cmStd] using hk5
    have h0:=x10 (hno (fun h=>h.2 h5));have q1:CM .eq (Int.ofNat ns) 0=true:=by rw[hC,h0];rfl
    cbv;repeat' first|exact O5|intro β;cbv|apply O4
    repeat (any_goals (simp only[hk5,q1];try (cbv;repeat' first|exact O5|intro β;cbv|apply O4)))
    refine hP [(0,0),(1,0),(2,0),(3,0),(4,0),(5,0)] _ _ _ _ ?_ rfl ?_ hQ
    ·rfl
    ·exact aP
   ·have h5:k≠5:=by rw[hC] at hk5;simpa [cmStd] using hk5
    obtain⟨a1,a2,a3,a4,a5⟩:=hans rfl h5;obtain⟨b0,b1,b2⟩:=x9 (.inr a1);obtain⟨sn,rfl⟩:∃k,sn=k+1:=⟨sn-1,by omega⟩;clear hB hno hans x9 x10;obtain⟨T,VO,LD,CO,kk,⟨mk,mto,mfr,mtm2,mlt2,mix2,mcm2,mrj,mrh,mn,md⟩⟩:=p;change mk=4 at a2;change mto=some fr at a3;change mfr=some id at a4;change mtm2=some xt at a5;subst a2;subst a3;subst a4;subst a5;change sf=MG.r ⟨4,some fr,some id,some xt,mlt2,mix2,mcm2,mrj,mrh,mn,md⟩ (tfStd.t md) at b2;generalize tfStd.t md=tx at b2;subst b1;subst b2;have q1:CM .eq (Int.ofNat 1) 1=true:=by rw[hC];rfl
    have q2:CM .eq 4 4=true:=by rw[hC];rfl
    have q3:CM .eq fr fr=true:=by rw[hC];simp[cmStd]
    have q4:CM .eq id id=true:=by rw[hC];simp[cmStd]
    have q5:CM .eq xt xt=true:=by rw[hC];simp[cmStd]
    have q6:CM .lt 0 (Int.ofNat 1)=true:=by rw[hC];rfl
    have q7:CM .le 0 0=true:=by rw[hC];rfl
    have q8:∀k,k<21→CM .lt (Int.ofNat k) (Int.ofNat (mR HMul.hMul 1 21))=true:=by intro k hk;rw[hC];show decide (Int.ofNat k<Int.ofNat 21)=true;simp only[decide_eq_true_eq,Int.ofNat_eq_natCast];omega
    subst hNF;subst hmu;cbv;repeat' first|exact O5|intro β;cbv|apply O4
    repeat (any_goals (simp only[hk5];try (cbv;repeat' first|exact O5|intro β;cbv|apply O4)))
    repeat (first|(refine inl @hI Tryz.func30 Tryz.ntmps30 rfl rfl ?_;cbv;repeat' first|exact O5|intro β;cbv|apply O4))
    repeat (any_goals (simp only[q1,q2,q3,q4,q5];try (cbv;repeat' first|exact O5|intro β;cbv|apply O4)))
    all_goals first|exact q6|exact q7|exact q8 _ (by decide)|skip
    refine hP [(0,0),(1,0),(2,0),(3,0),(4,0),(5,0)] _ _ _ _ ?_ rfl ?_ hQ
    ·rfl
    ·exact aP
 |true=>
  rcases hk5:CM .ne k 5 with _|_
  ·have h5:k=5:=by rw[hC] at hk5;simpa [cmStd] using hk5
   have h0:=x10 (hno (fun h=>h.2 h5));have q1:CM .eq (Int.ofNat ns) 0=true:=by rw[hC,h0];rfl
   cbv;repeat' first|exact O5|intro β;cbv|apply O4
   repeat (any_goals (simp only[hk5,q1];try (cbv;repeat' first|exact O5|intro β;cbv|apply O4)))
   refine hP [(0,0),(1,0),(2,0),(3,0),(4,0),(5,0)] _ _ _ _ ?_ rfl ?_ hQ
   ·rfl
   ·exact aP
  ·have h5:k≠5:=by rw[hC] at hk5;simpa [cmStd] using hk5
   obtain⟨a1,a2,a3,a4,a5⟩:=hans rfl h5;obtain⟨b0,b1,b2⟩:=x9 (.inr a1);obtain⟨sn,rfl⟩:∃k,sn=k+1:=⟨sn-1,by omega⟩;clear hB hno hans x9 x10;obtain⟨T,VO,LD,CO,kk,⟨mk,mto,mfr,mtm2,mlt2,mix2,mcm2,mrj,mrh,mn,md⟩⟩:=p;change mk=4 at a2;change mto=some fr at a3;change mfr=some id at a4;change mtm2=some xt at a5;subst a2;subst a3;subst a4;subst a5;change sf=MG.r ⟨4,some fr,some id,some xt,mlt2,mix2,mcm2,mrj,mrh,mn,md⟩ (tfStd.t md) at b2;generalize tfStd.t md=tx at b2;subst b1;subst b2;have q1:CM .eq (Int.ofNat 1) 1=true:=by rw[hC];rfl
   have q2:CM .eq 4 4=true:=by rw[hC];rfl
   have q3:CM .eq fr fr=true:=by rw[hC];simp[cmStd]
   have q4:CM .eq id id=true:=by rw[hC];simp[cmStd]
   have q5:CM .eq xt xt=true:=by rw[hC];simp[cmStd]
   have q6:CM .lt 0 (Int.ofNat 1)=true:=by rw[hC];rfl
   have q7:CM .le 0 0=true:=by rw[hC];rfl
   have q8:∀k,k<21→CM .lt (Int.ofNat k) (Int.ofNat (mR HMul.hMul 1 21))=true:=by intro k hk;rw[hC];show decide (Int.ofNat k<Int.ofNat 21)=true;simp only[decide_eq_true_eq,Int.ofNat_eq_natCast];omega
   subst hNF;subst hmu;cbv;repeat' first|exact O5|intro β;cbv|apply O4
   repeat (any_goals (simp only[hk5];try (cbv;repeat' first|exact O5|intro β;cbv|apply O4)))
   repeat (first|(refine inl @hI Tryz.func30 Tryz.ntmps30 rfl rfl ?_;cbv;repeat' first|exact O5|intro β;cbv|apply O4))
   repeat (any_goals (simp only[q1,q2,q3,q4,q5];try (cbv;repeat' first|exact O5|intro β;cbv|apply O4)))
   all_goals first|exact q6|exact q7|exact q8 _ (by decide)|skip
   refine hP [(0,0),(1,0),(2,0),(3,0),(4,0),(5,0)] _ _ _ _ ?_ rfl ?_ hQ
   ·rfl
   ·exact aP
theorem s24 {id:Int} {W:Nat→Value} {m:tT} {sx:ByteArray} {K:SV→List C→Prop} (hW:∀k,k<26→(W k).oneCell'=true)
  (hQ:∀q:Bool,(q=true→0<m.fr∧m.fr<1099511627776∧m.fr≠id∧0<m.tm∧m.tm≤1099511627776∧tfStd.sz sx≤100)→K (.bl q) []) (F:HProp):
  inS Tryz.prog F 24 [.agg [.i .u64 id,.v (W 1),.v (W 2),.v (W 3),.v (W 4),.v (W 5),.v (W 6),.v (W 7),.v (W 8),.v (W 9),.v (W 10),.v (W 11),.v (W 12),.v (W 13),.v (W 14),.v (W 15),.v (W 16),.v (W 17),.v (W 18),.v (W 19),.v (W 20),.v (W 21),.v (W 22),.v (W 23),.v (W 24),.v (W 25)],m.arg sx] [] K:=by
 obtain⟨k,to',fr,tm,lt,mix,cm⟩:=m;change∀q:Bool,(q=true→0<fr∧fr<1099511627776∧fr≠id∧0<tm∧tm≤1099511627776∧tfStd.sz sx≤100)→K (.bl q) [] at hQ;refine aF ⟨false,false⟩ (fun _=>[]) (fun _=>.nil) Tryz.func24 Tryz.ntmps24 rfl rfl ?_;intros;rename_i TX hTX _ _ _ _ CM hC _ _ _ _ _ _ _ hI _ _ _ _ hP;obtain⟨tz,tls,tt,to0,apx⟩:=TX;have etz:∀s,tz s=tfStd.sz s:=fun s=>congrArg (fun t:TF=>t.sz s) hTX;have q0:CM .eq 0 0=true:=by rw[hC];rfl
 cbv;repeat' first|exact O5|intro β;cbv|apply O4
 all_goals first|exact hW _ (by decide)|skip
 repeat (first|(refine inl @hI Tryz.func59 Tryz.ntmps59 rfl rfl ?_;cbv;repeat' first|exact O5|intro β;cbv|apply O4))
 all_goals first|exact hW _ (by decide)|skip
 rcases t1:CM .lt 0 fr with _|_
 ·repeat (any_goals (simp only[t1];try (cbv;repeat' first|exact O5|intro β;cbv|apply O4)))
  refine hP [] _ _ _ _ ?_ rfl ?_ (hQ false (fun h=>by cases h))
  ·rfl
  ·exact aP
 repeat (any_goals (simp only[t1];try (cbv;repeat' first|exact O5|intro β;cbv|apply O4)))
 rcases t2:CM .lt fr 1099511627776 with _|_
 ·repeat (any_goals (simp only[t1,t2];try (cbv;repeat' first|exact O5|intro β;cbv|apply O4)))
  refine hP [] _ _ _ _ ?_ rfl ?_ (hQ false (fun h=>by cases h))
  ·rfl
  ·exact aP
 repeat (any_goals (simp only[t1,t2];try (cbv;repeat' first|exact O5|intro β;cbv|apply O4)))
 rcases t3:CM .ne fr id with _|_
 ·repeat (any_goals (simp only[t3];try (cbv;repeat' first|exact O5|intro β;cbv|apply O4)))
  refine hP [] _ _ _ _ ?_ rfl ?_ (hQ false (fun h=>by cases h))
  ·rfl
  ·exact aP
 repeat (any_goals (simp only[t3];try (cbv;repeat' first|exact O5|intro β;cbv|apply O4)))
 rcases t4:CM .lt 0 tm with _|_
 ·repeat (any_goals (simp only[t4];try (cbv;repeat' first|exact O5|intro β;cbv|apply O4)))
  refine hP [] _ _ _ _ ?_ rfl ?_ (hQ false (fun h=>by cases h))
  ·rfl
  ·exact aP
 repeat (any_goals (simp only[t4];try (cbv;repeat' first|exact O5|intro β;cbv|apply O4)))
 rcases t5:CM .le tm 1099511627776 with _|_
 ·repeat (any_goals (simp only[t5];try (cbv;repeat' first|exact O5|intro β;cbv|apply O4)))
  refine hP [] _ _ _ _ ?_ rfl ?_ (hQ false (fun h=>by cases h))
  ·rfl
  ·exact aP
 repeat (any_goals (simp only[t5];try (cbv;repeat' first|exact O5|intro β;cbv|apply O4)))
 rcases t6:CM .le (Int.ofNat (tz sx)) 100 with _|_
 ·repeat (any_goals (simp only[t6];try (cbv;repeat' first|exact O5|intro β;cbv|apply O4)))
  refine hP [] _ _ _ _ ?_ rfl ?_ (hQ false (fun h=>by cases h))
  ·rfl
  ·exact aP
 repeat (any_goals (simp only[t6,q0];try (cbv;repeat' first|exact O5|intro β;cbv|apply O4)))
 have r1:0<fr:=by rw[hC] at t1;simpa [cmStd] using t1
 have r2:fr<1099511627776:=by rw[hC] at t2;simpa [cmStd] using t2
 have r3:fr≠id:=by rw[hC] at t3;simpa [cmStd] using t3
 have r4:0<tm:=by rw[hC] at t4;simpa [cmStd] using t4
 have r5:tm≤1099511627776:=by rw[hC] at t5;simpa [cmStd] using t5
 have r6:tfStd.sz sx≤100:=by rw[hC] at t6;simp only[cmStd,decide_eq_true_eq,Int.ofNat_eq_natCast] at t6;rw[←etz];omega
 refine hP [] _ _ _ _ ?_ rfl ?_ (hQ true (fun _=>⟨r1,r2,r3,r4,r5,r6⟩))
 ·rfl
 ·exact aP
def iT.set (s:iT):cR:=⟨s.id,s.et,s.ht,s.z,s.pv,s.cq,s.ls,s.nf,s.sd,s.ms,s.mc,s.mi,s.data,s.ix,s.it,s.V,s.L,s.O,s.X,s.lsp,s.lnn,s.lb,s.lo,s.lc,s.ln,s.es,s.fl,s.tm,s.vo,s.co,s.ap⟩
structure iT.wf3 (s:iT):Prop where
 fl0:s.fl=entR s.es
 es0:s.es.length=s.ln
 Vn:s.V.n=s.V.l.length
 Ln:s.L.n=s.L.l.length
 On:s.O.n=s.O.l.length
 Xn:s.X.n=s.X.l.length
 z:s.z.sp=false
 V:s.V.sp=false
 L:s.L.sp=false
 O:s.O.sp=false
 X:s.X.sp=false
 g:s.lsp=false
 mc1:s.mc<18446744073709551616
 et:∀x∈s.es,0≤x.t∧x.t<18446744073709551616
theorem B4 {s:iT} (h:lD s) (h1 h2 h3 h4 h5 h6:Nat):s.cs h1 h2 h3 h4 h5 h6=s.set.cs h1 h2 h3 h4 h5 h6:=by have e1:=h.mu0;have e2:=h.mem.al0;unfold iT.cs cR.cs;rw[e1,e2];rfl
theorem yE {s:iT} (w:s.wf3):s.set.frz:=⟨w.z,w.V,w.L,w.O,w.X,w.g⟩
theorem DQ {s:iT} (h:lD s) (w:s.wf3):s.set.ok:=by
 obtain⟨a1,a2,a3,a4,a5,a6,a7,a8,a9,b1,b2,b3,⟨m1,m2,m3,m4,m5,m6,m7,m8⟩,b4,b5,b6,b7,b8,b9,⟨r1,r2,r3⟩,c1,c2,c3⟩:=h;obtain⟨w1,w2,w3,w4,w5,w6,w7,w8,w9,x1,x2,x3,x4,x5⟩:=w;have hV:=List.nodup_append.1 m8;have kV:∀k∈s.V.l,0<k:=fun k hk=>(m7 k (List.mem_append_left _ hk)).1;have kL:∀k∈s.L.l,0<k:=fun k hk=>(m7 k (List.mem_append_right _ hk)).1;refine⟨a1,a2,a3,a4,a5,b1,b2,a8,a9,a7,by show s.z.l≤1000;omega,⟨?_,hV.1,hV.2.1,fun k h1 h2=>hV.2.2 k h1 k h2 rfl,fun k hk=>by have:=kV k hk;omega,fun k hk=>by have:=kL k hk;omega,by show s.V.l.length≤900;omega,by show s.L.l.length≤900;omega⟩,by show s.V.l.length≤9;omega,by show s.L.l.length≤4;omega,w3,w4,m4,m5,?_,?_,w2,r1,w1,?_,?_,by show tfStd.sz s.data≤4294967296;omega,b5,b6,by show 1≤s.tm;omega,c1,c2,c3⟩
 ·intro h0;have:s.V.l=[]:=h0;rw[this] at w3;exact m1 w3
 ·exact List.length_eq_zero_iff.1 (by show s.O.l.length=0;rw[←w5];exact m4)
 ·exact List.length_eq_zero_iff.1 (by show s.X.l.length=0;rw[←w6];exact m5)
 ·intro x hx;obtain⟨k,hk,rfl⟩:=List.mem_iff_getElem.1 hx;exact(r3 k (by rw[←w2];exact hk) _ (List.getElem?_eq_getElem hk)).2.1
 ·show s.es=[]∨∃e r,s.es=e::r∧e.i=s.ix+1;rcases hes:s.es with _|⟨e,r⟩
  ·exact .inl rfl
  ·refine .inr ⟨e,r,rfl,?_⟩;have h0:0<s.ln:=by rw[←w2,hes];simp
   have:=(r3 0 h0 e (by rw[hes];rfl)).1;rw[this];simp
theorem yP {s:iT} (h:lD s) (w:s.wf3):s.set.ok3:=by
 obtain⟨r1,r2,r3⟩:=h.row;have h1:=h.ix0;have h2:=h.ix1;refine⟨fun j hj=>?_,w.mc1,fun k x hx=>?_⟩
 ·have hj:j<s.ln:=hj;have hlt:j<s.es.length:=by rw[w.es0];exact hj
  have hx:=List.getElem?_eq_getElem hlt;obtain⟨e1,e2,e3⟩:=r3 j hj _ hx;have ht:=w.et _ (List.getElem_mem hlt);rw[show s.set.es=s.es from rfl,kI,hx];exact⟨_,_,_,_,rfl,⟨ht.1,ht.2⟩,⟨by rw[e1];omega,by rw[e1];omega⟩,e3⟩
 ·have hk:k<s.es.length:=by
   rcases Nat.lt_or_ge k s.es.length with h|h
   ·exact h
   ·have hx:s.es[k]?=some x:=hx;rw[List.getElem?_eq_none h] at hx;cases hx
  exact(r3 k (by rw[←w.es0];exact hk) x hx).1
def iT.W (s:iT) (k:Nat):Value:=(bE (s.cs 0 1 2 3 4 5) k).den
theorem iT.W_one (s:iT):∀k,k<26→(s.W k).oneCell'=true:=sN rfl
def iW (W:World):Hp:=fun l=>match l with
 |(b,none)=>match W.heap[b]? with
  |some (.cells _ _ _)=>some (.hdr 0 0)|_=>none
 |(b,some k)=>match W.heap[b]? with
  |some o=>match Nat.beq k (iK o) with
   |true=>some (.old o W)|false=>match W.cell? ⟨b,k,none⟩ with
    |some v=>match W.frozen? ⟨b,k,none⟩ with
     |false=>some (.val v)|true=>none
    |none=>none
  |none=>none
theorem MW {W:World} {l:pX} {c:Cn} (h:iW W l=some c):has W l c:=by
 obtain⟨b,k⟩:=l;cases k with
 |none=>
  simp only[iW] at h;split at h
  ·rename_i he;cases h;exact⟨_,_,_,he⟩
  ·cases h
 |some k=>
  simp only[iW] at h;split at h
  ·rename_i o he;split at h
   ·rename_i hk;cases h;exact⟨he,Nat.eq_of_beq_eq_true hk,rfl,rfl,rfl⟩
   ·split at h
    ·rename_i v hv;split at h
     ·rename_i hf;cases h;exact⟨hv,hf⟩
     ·cases h
    ·cases h
  ·cases h
theorem OT {W:World} {b k:Nat} {v:Value} (h:W.cell? ⟨b,k,none⟩=some v) (hf:W.frozen? ⟨b,k,none⟩=false):iW W (b,some k)=some (.val v):=by
 have h0:=h;unfold World.cell? at h0;simp only at h0;split at h0
 ·rename_i c T fr he;simp only[Option.isSome_none,Bool.false_eq_true,if_false] at h0;have hk:k<c.size:=by
   rcases Nat.lt_or_ge k c.size with h1|h1
   ·exact h1
   ·rw[Array.getElem?_eq_none h1] at h0;cases h0
  have hne:Nat.beq k (iK (.cells c T fr))=false:=by
   show Nat.beq k c.size=false;cases hb:Nat.beq k c.size with
   |false=>rfl|true=>have:=Nat.eq_of_beq_eq_true hb;omega
  simp only[iW,he,hne,h,hf]
 ·cases h0
theorem OC {W:World} {b:Nat} {c:Array Value} {T:TypeId} {fr:Nat×Nat} (h:W.heap[b]?=some (.cells c T fr)):iW W (b,none)=some (.hdr 0 0):=by simp only[iW,h]
def OLD (W:World):HProp where
 h:=fun m i=>m=cG∧∀b o,W.heap[b]?=some o→i (b,some (iK o))=some (.old o W)
 mono:=fun s ⟨e,h⟩=>⟨e,fun b o ho=>s _ _ (h b o ho)⟩
theorem dP {A B:HProp} {i:Hp} (h1:A.h cG i) (h2:B.h cG i):(star A B).h cG i:=⟨cG,cG,fun l=>.inl rfl,(cQ _).symm,h1,h2⟩
theorem qV {p:Prop} {i:Hp} (h:p):(pure' p).h cG i:=⟨rfl,h⟩
theorem NC {W:World} {A:HProp} (h:A.h cG (iW W)):sat W (star A (OLD W)):=by
 refine⟨cG,iW W,dP h ⟨rfl,fun b o ho=>?_⟩,fun l=>.inl rfl,?_,?_⟩
 ·have:Nat.beq (iK o) (iK o)=true:=Nat.beq_refl _;simp only[iW,ho,this]
 ·rintro l c (h|h)
  ·cases h
  ·exact MW h
 ·exact⟨fun _ _ _ _ _ _=>rfl,fun l o w₀ e=>by cases e⟩
theorem A2 {W w':World} {A:HProp} (hs:sat w' (star A (OLD W))) (h0:0<W.heap.size):RowKit.Below W.heap.size W w':=by
 obtain⟨m,i,⟨m₁,m₂,d,rfl,a,⟨rfl,ho⟩⟩,dj,s,f⟩:=hs;have key:∀b o,W.heap[b]?=some o→w'.heap[b]?=some o∧w'.os=W.os∧w'.output=W.output∧w'.tape=W.tape:=fun b o hb=>by have:=s (b,some (iK o)) (.old o W) (.inr (ho b o hb));exact⟨this.1,this.2.2.1,this.2.2.2.1,this.2.2.2.2⟩
 have hk:=key 0 _ (Array.getElem?_eq_getElem h0);refine⟨hk.2.1,hk.2.2.2,hk.2.2.1,?_,fun k hk=>?_⟩
 ·have h1:=(key (W.heap.size-1) _ (Array.getElem?_eq_getElem (by omega))).1;rcases Nat.lt_or_ge (W.heap.size-1) w'.heap.size with h2|h2
  ·omega
  ·rw[Array.getElem?_eq_none h2] at h1;cases h1
 ·have h1:=(key k _ (Array.getElem?_eq_getElem hk)).1;rw[h1,Array.getElem?_eq_getElem hk]
theorem sJ {W:World} {b:Nat}:∀(vs:List Value) (off:Nat),(∀j v,vs[j]?=some v→iW W (b,some (off+j))=some (.val v))→(aG false b off vs).h cG (iW W)
 |[],off,h=>rfl|v::r,off,h=>by refine dP ⟨rfl,h 0 v rfl⟩ (sJ r (off+1) fun j v hj=>?_);have:=h (j+1) v (by simpa using hj);rw[show off+1+j=off+(j+1) by omega];exact this
structure RowIn (W:World) (nn b off n cap sz:Nat) (vs:List Value):Prop where
 len:vs.length=n*sz
 nil:nn=0→n=0∧cap=0
 le:n≤cap
 blk:nn≠0→∃c T fr,W.heap[b]?=some (.cells c T fr)
 cel:∀j v,vs[j]?=some v→W.cell? ⟨b,off+j,none⟩=some v∧W.frozen? ⟨b,off+j,none⟩=false
theorem KZ {W:World} {nn b off n cap sz:Nat} {vs:List Value} (T:TypeId) (h:RowIn W nn b off n cap sz vs):(slR T sz vs nn b off cap).h cG (iW W):=by
 obtain⟨h1,h2,h3,h4,h5⟩:=h;cases nn with
 |zero=>obtain⟨rfl,rfl⟩:=h2 rfl;exact qV ⟨List.length_eq_zero_iff.1 (by rw[h1];omega),rfl⟩
 |succ m=>
  obtain⟨c,T',fr,hb⟩:=h4 (by omega);refine⟨off+cap*sz,dP (qV ⟨Nat.le_refl _,?_⟩) (dP ⟨rfl,OC hb⟩ (sJ vs off fun j v hj=>?_))⟩
  ·rw[h1];exact Nat.mul_le_mul_right _ h3
  ·obtain⟨a,b⟩:=h5 j v hj;exact OT a b
theorem K5 {i:Hp} {nn b off cap:Nat} {f:FV} (h:(f.row nn b off cap).h cG i):(Cel.den (.prd (.sl false nn b off cap f):C)).h cG i:=by show (star (f.row nn b off cap) emp).h cG i;rw[aO];exact h
theorem BV {W:World} {nn b off n cap:Nat} {T:TypeId} {k:IntKind} {l:List Int} (hl:l.length=n) (h:RowIn W nn b off n cap 1 (l.map (.int k))):(Cel.den (.prd (.sl false nn b off cap (.ul T k n l)):C)).h cG (iW W):=
 K5 (dP (qV hl) (KZ T h))
def entV:List EN→List Value
 |[]=>[]|e::r=>.int .u64 e.t:: .int .u64 e.i:: .int .i64 e.k:: .string e.s::entV r
theorem qT:∀es:List EN,(entV es).length=es.length*4
 |[]=>rfl|e::r=>by have:=qT r;simp only[entV,List.length_cons,this];omega
theorem GO {v:Value} {i:Hp} (h:v.oneCell'=true):(FV.den (.sc v) v).h cG i:=qV ⟨rfl,h⟩
theorem r8 {i:Hp}:∀es:List EN,(FV.dens (entR es) (entV es)).h cG i
 |[]=>rfl|e::r=>dP (GO rfl) (dP (GO rfl) (dP (GO rfl) (dP (GO rfl) (r8 r))))
theorem en_h {W:World} {nn b off n cap:Nat} {es:List EN} (hl:es.length=n) (h:RowIn W nn b off n cap 4 (entV es)):(Cel.den (.prd (.sl false nn b off cap (.sl 81 4 n (entR es))):C)).h cG (iW W):=
 K5 ⟨entV es,dP (qV (by rw[qT,hl])) (dP (KZ 81 h) (r8 es))⟩
end Go.Sx
namespace Go.Sx
open Go Go.Proofs Go.ChangeShapes Go.WideShapes
section
variable {H:Type} {enc:TypeId×Value→H} {W:World}
noncomputable abbrev TR (enc:TypeId×Value→H) (W:World) (n:Nat) (t:TypeId) (cs:List Value):Option (DataW H×List MemPlace):=DataW.trod enc Tryz.prog W 0 (fun _=>true) true n t cs
def Rd (enc:TypeId×Value→H) (W:World) (t:TypeId) (cs:List Value):Prop:=∃n x,TR enc W n t cs=some x∧∀b off,MemPlace.cell b off∈x.2→W.frozen? ⟨b,off,none⟩=false
theorem uV {t:TypeId} {fs:Array Field} {cs:List Value} (ht:Tryz.prog.underlying t=some (.struct fs)) (h:Rd enc W t cs):
  cs.length=Tryz.prog.cellsOf t∧∀(k:Nat) (f:Field),fs[k]?=some f→Rd enc W f.type ((cs.drop f.offset).take (Tryz.prog.cellsOf f.type)):=by
 obtain⟨n,x,h1,h2⟩:=h;obtain⟨xs,m,_,rfl,h3,h4,h5⟩:=DataW.trod_struct ht h1;refine⟨h3,fun k f hk=>?_⟩;have hlt:k<fs.size:=by
  rcases Nat.lt_or_ge k fs.size with h|h
  ·exact h
  ·rw[Array.getElem?_eq_none h] at hk;cases hk
 have h6:=h5 k f hk;have hx:xs[k]?=some (xs[k]'(by omega)):=List.getElem?_eq_getElem _;rw[hx] at h6;exact⟨m,_,h6,fun b off hq=>h2 b off (List.mem_flatMap.2 ⟨_,List.getElem_mem _,hq⟩)⟩
theorem dO {t:TypeId} {k:IntKind} {cs:List Value} (ht:Tryz.prog.underlying t=some (.int k)) (h:Rd enc W t cs):∃n:Int,cs=[.int k n]∧k.min≤n∧n≤k.max:=by obtain⟨m,x,h1,_⟩:=h;obtain⟨n,h2,_,h3⟩:=DataW.trod_int ht h1;refine⟨n,h2,?_⟩;simpa [Lit.wf] using h3
theorem kZ {t:TypeId} {cs:List Value} (ht:Tryz.prog.underlying t=some .bool) (h:Rd enc W t cs):∃b,cs=[.bool b]:=by obtain⟨m,x,h1,_⟩:=h;obtain⟨b,h2,_⟩:=DataW.trod_bool ht h1;exact⟨b,h2⟩
theorem B3 {t:TypeId} {cs:List Value} (ht:Tryz.prog.underlying t=some .string) (h:Rd enc W t cs):∃s,cs=[.string s]:=by obtain⟨m,x,h1,_⟩:=h;obtain⟨s,h2,_⟩:=DataW.trod_string ht h1;exact⟨s,h2⟩
theorem LE {t e:TypeId} {v:Value} {base:Nat} (ht:Tryz.prog.underlying t=some (.slice e)) (h:Rd enc W t [v]) (hok:Cell.okWide Tryz.prog W .any base t v):
  v=.slice none 0 0∨∃b off n cap c T fr,v=.slice (some ⟨b,off,none⟩) n cap∧n≤cap∧W.heap[b]?=some (.cells c T fr)∧
   (∀j,j<cap*Tryz.prog.cellsOf e→W.frozen? ⟨b,off+j,none⟩=false)∧
   ∀i,i<cap→∃cs,cs.length=Tryz.prog.cellsOf e∧(∀j,j<Tryz.prog.cellsOf e→W.cell? ⟨b,off+(i*Tryz.prog.cellsOf e+j),none⟩=cs[j]?)∧Rd enc W e cs:=by
 obtain⟨m,x,h1,h2⟩:=h;rcases Deep.open_slice ht h1 with ⟨hcs,_⟩|⟨a,len,cap,mm,nf,D,Pl,hcs,hb,hl,hm,hmm,hx,hel⟩
 ·left;simpa using hcs
 ·right;simp only[List.cons.injEq,and_true] at hcs;subst hcs;have hmm:mm=cap:=by simpa using hmm
  subst hmm;have hh:∃row cells,a.spot=none∧W.shape? a.block=some (row,cells):=by simp only[Cell.okWide,ht,Cell.ok,World.has] at hok;obtain⟨_,_,_,hs,row,cells,h3,_⟩:=hok;exact⟨row,cells,hs,h3⟩
  obtain⟨row,cells,hs,h3⟩:=hh;obtain⟨b,off,spot⟩:=a;change spot=none at hs;subst hs;have hblk:∃c T fr,W.heap[b]?=some (.cells c T fr):=by
   unfold World.shape? at h3;split at h3
   ·rename_i c T fr he;exact⟨c,T,fr,he⟩
   ·cases h3
  obtain⟨c,T,fr,hblk⟩:=hblk;subst hx;refine⟨b,off,len,_,c,T,fr,rfl,hl,hblk,fun j hj=>h2 b (off+j) (List.mem_append_left _ ?_),fun i hi=>?_⟩
  ·exact List.mem_map.2 ⟨j,List.mem_range.2 hj,rfl⟩
  ·obtain⟨cs',h4,h5⟩:=hel i hi;obtain⟨_,h6,h7⟩:=World.cells?_some h4;refine⟨cs',h6,fun j hj=>?_,nf,_,h5,fun b' off' hq=>h2 b' off' (List.mem_append_right _ (List.mem_flatMap.2 ⟨i,List.mem_range.2 hi,hq⟩))⟩;rw[←h7 j hj,gA,gA,Nat.add_assoc]
theorem D2 {n:Nat} {β:Type} {p:Nat→β→Prop} [Inhabited β] (h:∀i,i<n→∃z,p i z):∃z:Nat→β,∀i,i<n→p i (z i):=by refine⟨fun i=>if hi:i<n then Classical.choose (h i hi) else default,fun i hi=>?_⟩;simp only[hi,dif_pos];exact Classical.choose_spec (h i hi)
structure UIn (W:World) (k:IntKind) (u:UL):Prop where
 sp:u.sp=false
 len:u.n=u.l.length
 row:RowIn W u.nn u.b u.off u.n u.cap 1 (u.l.map (.int k))
theorem mK {t e:TypeId} {k:IntKind} {v:Value} {base:Nat} (ht:Tryz.prog.underlying t=some (.slice e)) (he:Tryz.prog.underlying e=some (.int k)) (hc:Tryz.prog.cellsOf e=1) (h:Rd enc W t [v]) (hok:Cell.okWide Tryz.prog W .any base t v):
  ∃u:UL,v=.slice (slA u.nn u.b u.off) u.n u.cap∧UIn W k u:=by
 rcases LE ht h hok with rfl|⟨b,off,n,cap,c,T,fr,rfl,hle,hblk,hfr,hel⟩
 ·exact⟨⟨false,0,0,0,0,0,[]⟩,rfl,rfl,rfl,rfl,fun _=>⟨rfl,rfl⟩,Nat.le_refl _,fun h=>absurd rfl h,fun j v hj=>by simp at hj⟩
 ·rw[hc] at hel hfr
  obtain⟨z,hz⟩:=D2 (p:=fun i (z:Int)=>W.cell? ⟨b,off+i,none⟩=some (.int k z)) (n:=cap) (fun i hi=>by
   obtain⟨cs,h1,h2,h3⟩:=hel i hi;obtain⟨y,rfl,_⟩:=dO he h3;have:=h2 0 (by omega);refine⟨y,?_⟩
   simpa using this)
  refine⟨⟨false,1,b,off,cap,n,(List.range n).map z⟩,rfl,rfl,by simp,⟨by simp,fun h=>(by cases h),hle,fun _=>⟨c,T,fr,hblk⟩,fun j v hj=>?_⟩⟩;simp only[List.map_map,List.getElem?_map,List.getElem?_range] at hj;rcases Nat.lt_or_ge j n with h1|h1
  ·simp[h1] at hj;subst hj;exact⟨hz j (by omega),hfr j (by omega)⟩
  ·simp[Nat.not_lt.2 h1] at hj
theorem t8:∀(es:List EN) (j:Nat) (v:Value),(entV es)[j]?=some v→∃e,es[j/4]?=some e∧[Value.int .u64 e.t,.int .u64 e.i,.int .i64 e.k,.string e.s][j % 4]?=some v
 |[],j,v,h=>by simp[entV] at h
 |e::r,0,v,h=>⟨e,rfl,h⟩|e::r,1,v,h=>⟨e,rfl,h⟩|e::r,2,v,h=>⟨e,rfl,h⟩|e::r,3,v,h=>⟨e,rfl,h⟩|e::r,j+4,v,h=>by
  obtain⟨e',h1,h2⟩:=t8 r j v (by simpa [entV] using h);refine⟨e',?_,?_⟩
  ·rw[show (j+4)/4=j/4+1 by omega];simpa using h1
  ·rw[show (j+4) % 4=j % 4 by omega];exact h2
instance:Inhabited EN:=⟨⟨0,0,0,⟨#[]⟩⟩⟩
structure EIn (W:World) (nn b off n cap:Nat) (es:List EN):Prop where
 len:es.length=n
 row:RowIn W nn b off n cap 4 (entV es)
 t:∀x∈es,0≤x.t∧x.t<18446744073709551616
theorem HT {v:Value} {base:Nat} (h:Rd enc W 29 [v]) (hok:Cell.okWide Tryz.prog W .any base 29 v):∃nn b off n cap es,v=.slice (slA nn b off) n cap∧EIn W nn b off n cap es:=by
 have hc:Tryz.prog.cellsOf 81=4:=by kernel_rfl
 rcases LE Tryz.underlying29 h hok with rfl|⟨b,off,n,cap,c,T,fr,rfl,hle,hblk,hfr,hel⟩
 ·exact⟨0,0,0,0,0,[],rfl,rfl,⟨rfl,fun _=>⟨rfl,rfl⟩,Nat.le_refl _,fun h=>absurd rfl h,fun j v hj=>by simp[entV] at hj⟩,fun x hx=>by cases hx⟩
 ·rw[hc] at hel hfr
  obtain⟨z,hz⟩:=D2 (p:=fun i (z:EN)=>(∀j,j<4→W.cell? ⟨b,off+(i*4+j),none⟩=[Value.int .u64 z.t,.int .u64 z.i,.int .i64 z.k,.string z.s][j]?)∧0≤z.t∧z.t<18446744073709551616) (n:=cap) (fun i hi=>by
   obtain⟨cs,h1,h2,h3⟩:=hel i hi;obtain⟨_,h4⟩:=uV Tryz.underlying81 h3;obtain⟨c0,c1,c2,c3,rfl⟩:∃c0 c1 c2 c3,cs=[c0,c1,c2,c3]:=by
    match cs,h1 with
    |[c0,c1,c2,c3],_=>exact⟨c0,c1,c2,c3,rfl⟩
   have hc22:Tryz.prog.cellsOf 22=1:=by kernel_rfl
   have hc3:Tryz.prog.cellsOf 3=1:=by kernel_rfl
   have hc9:Tryz.prog.cellsOf 9=1:=by kernel_rfl
   have f0:Rd enc W 22 (([c0,c1,c2,c3].drop 0).take (Tryz.prog.cellsOf 22)):=h4 0 _ rfl;have f1:Rd enc W 22 (([c0,c1,c2,c3].drop 1).take (Tryz.prog.cellsOf 22)):=h4 1 _ rfl;have f2:Rd enc W 3 (([c0,c1,c2,c3].drop 2).take (Tryz.prog.cellsOf 3)):=h4 2 _ rfl;have f3:Rd enc W 9 (([c0,c1,c2,c3].drop 3).take (Tryz.prog.cellsOf 9)):=h4 3 _ rfl;rw[hc22] at f0 f1;rw[hc3] at f2;rw[hc9] at f3;obtain⟨y0,g0,k0⟩:=dO Tryz.underlying22 f0;obtain⟨y1,g1,_⟩:=dO Tryz.underlying22 f1;obtain⟨y2,g2,_⟩:=dO Tryz.underlying3 f2;obtain⟨y3,g3⟩:=B3 Tryz.underlying9 f3;simp at g0 g1 g2 g3;subst g0;subst g1;subst g2;subst g3;refine⟨⟨y0,y1,y2,y3⟩,h2,?_⟩;have k1:(0:Int)≤y0:=k0.1;have k2:y0≤18446744073709551615:=k0.2
   exact⟨k1,by show y0<18446744073709551616;omega⟩)
  refine⟨1,b,off,n,cap,(List.range n).map z,rfl,by simp,⟨by rw[qT];simp,fun h=>(by cases h),hle,fun _=>⟨c,T,fr,hblk⟩,fun j v hj=>?_⟩,fun x hx=>?_⟩
  ·obtain⟨e,h1,h2⟩:=t8 _ _ _ hj;simp only[List.getElem?_map] at h1;rcases Nat.lt_or_ge (j/4) n with h3|h3
   ·rw[List.getElem?_range h3] at h1;simp at h1;subst h1;have h4:=(hz (j/4) (by omega)).1 (j % 4) (by omega);have e1:j/4*4+j % 4=j:=by omega
    rw[e1,h2] at h4;exact⟨h4,hfr j (by omega)⟩
   ·rw[List.getElem?_eq_none (by simpa using h3)] at h1;cases h1
  ·obtain⟨i,hi,rfl⟩:=List.mem_map.1 hx;exact(hz i (by have:=List.mem_range.1 hi;omega)).2
end
section
variable {H:Type} {enc:TypeId×Value→H} {W:World}
theorem O3 {t:TypeId} {fs:Array Field} {cs:List Value} (ht:Tryz.prog.underlying t=some (.struct fs)) (h:Rd enc W t cs) (k u o n:Nat) (hk:(fs[k]?.map fun f=>(f.type,f.offset))=some (u,o)) (hn:Tryz.prog.cellsOf u=n):Rd enc W u ((cs.drop o).take n):=by
 cases hf:fs[k]? with
 |none=>rw[hf] at hk;cases hk|some f=>rw[hf] at hk;cases hk;rw[←hn];exact(uV ht h).2 k f hf
def KB:List TypeId:=[22,3,3,23,4,4,4,4,4,22,22,22,3,9,22,22,24,24,24,24,4,29,22,22,22,22]
theorem D4 {cs:List Value} {base:Nat} (h:Rd enc W 33 cs) (hok:∀(i:Nat) (v:Value),cs[i]?=some v→∃u,KB[i]?=some u∧Cell.okWide Tryz.prog W .any base u v):
  ∃s:iT,cs=SV.dens (s.cs 0 1 2 3 4 5)∧s.wf3∧(big s.cells).h cG (iW W):=by
 have q22:Tryz.prog.cellsOf 22=1:=by kernel_rfl
 have q3:Tryz.prog.cellsOf 3=1:=by kernel_rfl
 have q4:Tryz.prog.cellsOf 4=1:=by kernel_rfl
 have q9:Tryz.prog.cellsOf 9=1:=by kernel_rfl
 have q23:Tryz.prog.cellsOf 23=1:=by kernel_rfl
 have q24:Tryz.prog.cellsOf 24=1:=by kernel_rfl
 have q29:Tryz.prog.cellsOf 29=1:=by kernel_rfl
 have q31:Tryz.prog.cellsOf 31=3:=by kernel_rfl
 have q28:Tryz.prog.cellsOf 28=8:=by kernel_rfl
 have q26:Tryz.prog.cellsOf 26=5:=by kernel_rfl
 have q33:Tryz.prog.cellsOf 33=26:=by kernel_rfl
 have hl:=(uV Tryz.underlying33 h).1;rw[q33] at hl;obtain⟨c0,c1,c2,c3,c4,c5,c6,c7,c8,c9,c10,c11,c12,c13,c14,c15,c16,c17,c18,c19,c20,c21,c22,c23,c24,c25,rfl⟩:∃c0 c1 c2 c3 c4 c5 c6 c7 c8 c9 c10 c11 c12 c13 c14 c15 c16 c17 c18 c19 c20 c21 c22 c23 c24 c25,
   cs=[c0,c1,c2,c3,c4,c5,c6,c7,c8,c9,c10,c11,c12,c13,c14,c15,c16,c17,c18,c19,c20,c21,c22,c23,c24,c25]:=by
  match cs,hl with
  |[c0,c1,c2,c3,c4,c5,c6,c7,c8,c9,c10,c11,c12,c13,c14,c15,c16,c17,c18,c19,c20,c21,c22,c23,c24,c25],_=>exact⟨_,_,_,_,_,_,_,_,_,_,_,_,_,_,_,_,_,_,_,_,_,_,_,_,_,_,rfl⟩
 have f0:=O3 Tryz.underlying33 h 0 22 0 _ rfl q22;have f1:=O3 Tryz.underlying33 h 1 3 1 _ rfl q3;have f2:=O3 Tryz.underlying33 h 2 3 2 _ rfl q3;have f3:=O3 Tryz.underlying33 h 3 23 3 _ rfl q23;have f4:=O3 Tryz.underlying33 h 4 4 4 _ rfl q4;have f5:=O3 Tryz.underlying33 h 5 4 5 _ rfl q4;have f6:=O3 Tryz.underlying33 h 6 4 6 _ rfl q4;have f7:=O3 Tryz.underlying33 h 7 4 7 _ rfl q4;have f8:=O3 Tryz.underlying33 h 8 4 8 _ rfl q4;have f9:=O3 Tryz.underlying33 h 9 22 9 _ rfl q22;have f10:=O3 Tryz.underlying33 h 10 22 10 _ rfl q22;have f11:=O3 Tryz.underlying33 h 11 22 11 _ rfl q22;have f12:=O3 Tryz.underlying33 h 12 3 12 _ rfl q3;have f13:=O3 Tryz.underlying33 h 13 28 13 _ rfl q28;have f14:=O3 Tryz.underlying33 h 14 29 21 _ rfl q29;have f15:=O3 Tryz.underlying33 h 15 31 22 _ rfl q31;have f16:=O3 Tryz.underlying33 h 16 22 25 _ rfl q22;have g0:=O3 Tryz.underlying28 f13 0 9 0 _ rfl q9;have g1:=O3 Tryz.underlying28 f13 1 22 1 _ rfl q22;have g2:=O3 Tryz.underlying28 f13 2 22 2 _ rfl q22;have g3:=O3 Tryz.underlying28 f13 3 26 3 _ rfl q26;have k0:=O3 Tryz.underlying26 g3 0 24 0 _ rfl q24;have k1:=O3 Tryz.underlying26 g3 1 24 1 _ rfl q24;have k2:=O3 Tryz.underlying26 g3 2 24 2 _ rfl q24;have k3:=O3 Tryz.underlying26 g3 3 24 3 _ rfl q24;have k4:=O3 Tryz.underlying26 g3 4 4 4 _ rfl q4;have m0:=O3 Tryz.underlying31 f15 0 22 0 _ rfl q22;have m1:=O3 Tryz.underlying31 f15 1 22 1 _ rfl q22;have m2:=O3 Tryz.underlying31 f15 2 22 2 _ rfl q22;simp only[List.drop,List.take] at f0 f1 f2 f3 f4 f5 f6 f7 f8 f9 f10 f11 f12 f14 f16 g0 g1 g2 k0 k1 k2 k3 k4 m0 m1 m2;have o:∀(i:Nat) (v:Value) (u:TypeId),[c0,c1,c2,c3,c4,c5,c6,c7,c8,c9,c10,c11,c12,c13,c14,c15,c16,c17,c18,c19,c20,c21,c22,c23,c24,c25][i]?=some v→KB[i]?=some u→Cell.okWide Tryz.prog W .any base u v:=by intro i v u h1 h2;obtain⟨u',h3,h4⟩:=hok i v h1;rw[h2] at h3;cases h3;exact h4
 obtain⟨n0,e0,_⟩:=dO Tryz.underlying22 f0;obtain⟨n1,e1,_⟩:=dO Tryz.underlying3 f1;obtain⟨n2,e2,_⟩:=dO Tryz.underlying3 f2;obtain⟨zu,e3,z1,z2,z3⟩:=mK Tryz.underlying23 Tryz.underlying3 q3 f3 (o 3 _ 23 rfl rfl);obtain⟨n4,e4⟩:=kZ Tryz.underlying4 f4;obtain⟨n5,e5⟩:=kZ Tryz.underlying4 f5;obtain⟨n6,e6⟩:=kZ Tryz.underlying4 f6;obtain⟨n7,e7⟩:=kZ Tryz.underlying4 f7;obtain⟨n8,e8⟩:=kZ Tryz.underlying4 f8;obtain⟨n9,e9,_⟩:=dO Tryz.underlying22 f9;obtain⟨n10,e10,b10⟩:=dO Tryz.underlying22 f10;obtain⟨n11,e11,_⟩:=dO Tryz.underlying22 f11;obtain⟨n12,e12,_⟩:=dO Tryz.underlying3 f12;obtain⟨n13,e13⟩:=B3 Tryz.underlying9 g0;obtain⟨n14,e14,_⟩:=dO Tryz.underlying22 g1;obtain⟨n15,e15,_⟩:=dO Tryz.underlying22 g2;obtain⟨vu,e16,v1,v2,v3⟩:=mK Tryz.underlying24 Tryz.underlying22 q22 k0 (o 16 _ 24 rfl rfl);obtain⟨lu,e17,l1,l2,l3⟩:=mK Tryz.underlying24 Tryz.underlying22 q22 k1 (o 17 _ 24 rfl rfl);obtain⟨ou,e18,o1,o2,o3⟩:=mK Tryz.underlying24 Tryz.underlying22 q22 k2 (o 18 _ 24 rfl rfl);obtain⟨xu,e19,x1,x2,x3⟩:=mK Tryz.underlying24 Tryz.underlying22 q22 k3 (o 19 _ 24 rfl rfl);obtain⟨n20,e20⟩:=kZ Tryz.underlying4 k4;obtain⟨gnn,gb,go,gn,gc,es,e21,w1,w2,w3⟩:=HT f14 (o 21 _ 29 rfl rfl);obtain⟨n22,e22,_⟩:=dO Tryz.underlying22 m0;obtain⟨n23,e23,_⟩:=dO Tryz.underlying22 m1;obtain⟨n24,e24,_⟩:=dO Tryz.underlying22 m2;obtain⟨n25,e25,_⟩:=dO Tryz.underlying22 f16;simp only[List.cons.injEq,and_true] at e0 e1 e2 e4 e5 e6 e7 e8 e9 e10 e11 e12 e13 e14 e15 e20 e22 e23 e24 e25;subst e0;subst e1;subst e2;subst e3;subst e4;subst e5;subst e6;subst e7;subst e8;subst e9;subst e10;subst e11;subst e12;subst e13;subst e14;subst e15;subst e16;subst e17;subst e18;subst e19;subst e20;subst e21;subst e22;subst e23;subst e24;subst e25;have b10':n10≤18446744073709551615:=b10.2
 refine⟨⟨n0,n1,n2,⟨false,zu.nn,zu.b,zu.off,zu.n,zu.cap,zu.l⟩,n4,n5,n6,n7,n8,n9,n10,n11,n12,n13,n14,n15,⟨false,vu.nn,vu.b,vu.off,vu.cap,vu.n,vu.l⟩,⟨false,lu.nn,lu.b,lu.off,lu.cap,lu.n,lu.l⟩,⟨false,ou.nn,ou.b,ou.off,ou.cap,ou.n,ou.l⟩,⟨false,xu.nn,xu.b,xu.off,xu.cap,xu.n,xu.l⟩,n20,false,gnn,gb,go,gc,gn,es,entR es,n22,n23,n24,n25⟩,rfl,
  ⟨rfl,w1,v2,l2,o2,x2,rfl,rfl,rfl,rfl,rfl,rfl,by show n10<_;omega,w3⟩,?_⟩
 exact dP (BV z2.symm z3) (dP (BV v2.symm v3) (dP (BV l2.symm l3) (dP (BV o2.symm o3) (dP (BV x2.symm x3) (dP (en_h w1 w2) rfl)))))
end
theorem H0 {W:World} {n:FuncId} {args:List SV} {cells:List C} (h0:0<W.heap.size) (hr:(big cells).h cG (iW W)) (h:inS Tryz.prog (OLD W) n args cells fun v _=>v=.bl true):
  Calls Tryz.prog n (SV.dens args).toArray W fun e w'=>e=.returned (.bool true)∧RowKit.Below W.heap.size W w':=by
 refine(h.2 W (NC hr)).mono fun e w' hR=>?_;rcases hR with h1|⟨v,hp,rfl,rfl,h1⟩
 ·exact h1.elim
 ·exact⟨rfl,A2 h1 h0⟩
section
variable {H:Type} {enc:TypeId×Value→H}
theorem handed {a:Assume} {K:Checked} {os:Os} {f:FuncId} {fn:Func} {s:ChangeSpec} {conds:List PathCond} {apart fresh handsOn again:Bool}
  (own:ownKnob K.prog.godebug=none) (started:os.Started) (noInit:K.prog.inits.idxOf? f=none) (hfn:K.prog.funcs[f]?=some fn) (hpos:∀W:World,W.ShapedOpen K.prog→0<W.heap.size)
  (witness:∃(w:World) (tape:Tape) (i:Input),w.os=os∧(w.forCall tape i).Shaped K.prog∧i.vars=[]∧Input.okWide K.prog (w.forCall tape i) .any w.heap.size f i∧
   s.pre6 enc K.prog fn conds apart (w.forCall tape i).memory i.args∧a.holds K.prog (lone (Frame.enter K.prog f i.args .normal) [] (w.forCall tape i)))
  (contract:∀(W:World) (base:Nat) (args:Array Value) (ds gs:List (DataW H)) (before:List MemPlace),0<W.heap.size→
   (∀(j:Nat) t v,fn.params[j]?=some t→args[j]?=some v→Value.okWide K.prog W .any base t v)→
   DataW.Whole enc K.prog fn.params.toList s.vars apart W args.toList ds gs before→
   Calls K.prog f args W fun e W'=>∃v,e=.returned v∧s.post enc K.prog fn apart fresh handsOn again W args v W'):
  ReturnsInHanded a K os f .any (s.pre6 enc K.prog fn conds apart) (s.post enc K.prog fn apart fresh handsOn again):=by
 refine returnsInHanded_of_calls own started noInit witness ?_;intro w tape i _ hsh _ hok hpre hholds;obtain⟨_,_,_,fn',hfn',_,_,_,_,hval⟩:=hok;have e:fn'=fn:=Option.some.inj (hfn'.symm.trans hfn);subst e;obtain⟨⟨ds,gs,before,hw,hc⟩,_⟩:=hpre;have hw':=DataW.Whole.of_heap (w':=w.forCall tape i) (by rfl) hw;refine(contract (w.forCall tape i) w.heap.size i.args ds gs before (hpos _ hsh) hval hw').mono fun e W' ⟨v,he,hp⟩=>?_;subst he;exact ChangeSpec.post_blind hp
theorem pos_heap (W:World) (h:W.ShapedOpen Tryz.prog):0<W.heap.size:=by
 obtain⟨o,_,h1,_⟩:=h.2 Tryz.prog.globals.size (Nat.le_refl _) (of_decide_eq_true (by kernel_rfl));rcases Nat.eq_zero_or_pos W.heap.size with h0|h0
 ·rw[Array.getElem?_eq_none (by omega)] at h1;cases h1
 ·exact h0
theorem open33 {W:World} {base:Nat} {v:Value} {d:DataW H} {p:List MemPlace} (hok:Value.okWide Tryz.prog W .any base 33 v) (h:DataW.Trod enc Tryz.prog W 0 (fun _=>true) true 33 v d p)
  (hfz:∀b off,MemPlace.cell b off∈p→W.frozen? ⟨b,off,none⟩=false):∃s:iT,v=.agg (SV.dens (s.cs 0 1 2 3 4 5)).toArray∧s.wf3∧(big s.cells).h cG (iW W):=by
 obtain⟨cs,rfl,hcs,hrow⟩:∃cs,v=.agg cs∧cs.size=Tryz.prog.cellsOf 33∧Row.okWide Tryz.prog W .any base 33 cs:=by simp only[Value.okWide,Tryz.underlying33] at hok;exact hok
 obtain⟨m,hm⟩:=h;have q33:Tryz.prog.cellsOf 33=26:=by kernel_rfl
 rw[q33] at hcs;have hty:Tryz.prog.cellTypes Tryz.prog.depth 33=some KB:=by kernel_rfl
 obtain⟨ts,h1,_,h2⟩:=hrow;rw[hty] at h1;cases h1
 obtain⟨s,e1,e2,e3⟩:=D4 (base:=base) (cs:=cs.toList) ⟨m,_,hm,hfz⟩ (fun i v hv=>by
  have hi:i<26:=by
   rcases Nat.lt_or_ge i 26 with h|h
   ·exact h
   ·rw[List.getElem?_eq_none (by simpa [hcs] using h)] at hv;cases hv
  obtain⟨u,h3,h4⟩:=h2 i v (by simpa using hv);have e:i % KB.length=i:=Nat.mod_eq_of_lt hi;rw[e] at h3
  exact⟨u,h3,h4⟩)
 exact⟨s,congrArg Value.agg (Array.ext' (by simpa using e1)),e2,e3⟩
end
end Go.Sx
