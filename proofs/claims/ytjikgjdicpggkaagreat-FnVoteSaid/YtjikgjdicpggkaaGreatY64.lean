import Derived.Test.YtjikgjdicpggkaaGreatY49
import Derived.Test.YtjikgjdicpggkaaGreatY60
import Derived.Test.YtjikgjdicpggkaaGreatY63
set_option autoImplicit true
set_option relaxedAutoImplicit true
set_option linter.all false
set_option maxRecDepth 100000
set_option maxHeartbeats 4000000
namespace Go.Sx
open Go Go.Proofs
theorem lvVK_03 (e:cR):lvVK e=0∨lvVK e=3:=by unfold lvVK;cases decide (e.co=e.apv)<;>simp
theorem late_vt {s:iT} (hs:lD s) (hw:s.wf3) {fr tm mx ml:Int} (h1:0<fr) (h3:0<tm) (h4:tm<s.tm) {K:SV→List C→Prop} (hQ:K (.bl true) s.cells) (F:HProp):
  inS Tryz.prog F 25 [.agg (s.cs 0 1 2 3 4 5),(vtM s.set fr tm mx ml).arg ⟨#[]⟩] s.cells K:=by
 rw[B4 hs];have he:=DQ hs hw;exact s25 (e:=s.set) (p:=lvV s.set) (c:=lvVK s.set) (yE hw) (ndVL_ok he (yP hs hw) (by omega) (by omega) h4) (by rcases lvVK_03 s.set with h|h<;>simp[h]) hw.fl0 hw.es0 he.es2 ⟨rfl,rfl,rfl,rfl⟩ (fun _ h=>absurd rfl h) (fun _=>lvVK_03 _) hQ F
theorem step_vt {s:iT} (hs:lD s) (hw:s.wf3) {fr tm mx ml:Int} (h1:0<fr) (h2:fr≠s.id) (h4:s.tm≤tm) {K:SV→List C→Prop}
  (hQ:∀(x:SDV) (sn sb so sc ns:Nat) (sf:List FV) (ln' lb' lo' lc' nl:Nat) (les:List EN),SDP s.set (vtP s.set fr tm (grP s.set fr tm mx ml)) 2 x sn ns sf nl les→
   K (.tup [.agg (x.l (.sl 6 sn sb so ns sc) (.sl 7 ln' lb' lo' nl lc')),.bl true]) (s.set.rows++[.prd (.sl true sn sb so sc (.sl 38 21 ns sf)),.prd (.sl true ln' lb' lo' lc' (.sl 81 4 nl (entR les)))])) (F:HProp):
  inS Tryz.prog F 28 [.agg (s.cs 0 1 2 3 4 5),(vtM s.set fr tm mx ml).arg ⟨#[]⟩] s.cells K:=by
 rw[B4 hs];exact s28m (e:=s.set) (p:=vtP s.set fr tm (grP s.set fr tm mx ml)) (c:=2) (yE hw) (ndV_ok (DQ hs hw) (yP hs hw) (by omega) h2 h4) (.inr (.inr (.inl rfl))) hQ F
theorem srE_f {e:cR} {p:PW} (h:vR e p=false):srE e p=⟨true,p.T,p.VO,p.CO,mustP ((p.T,p.VO),e.tm,e.vo)⟩:=by unfold srE;rw[h]
theorem votes_e {e:cR} {x:NDV} {tm:Int} (h1:x.t=e.tm) (h2:x.v=e.vo) (ht:e.tm≤tm):(if x.t<tm then 0 else x.v)=(if tm=e.tm then e.vo else 0):=by
 rw[h1,h2]
 by_cases h:tm=e.tm
 ·rw[if_neg (by omega),if_pos h]
 ·rw[if_pos (by omega),if_neg h]
theorem votesB_grP {e:cR} {x:NDV} {fr tm mx ml:Int} (h1:x.t=e.tm) (h2:x.v=e.vo) (h3:x.ix=e.ix) (h4:x.it=e.it) (hl:(dU e.ix e.it e.es).1=e.ix+e.ln) (ht:e.tm≤tm):
  votesB x e.es (vtM e fr tm mx ml)=grP e fr tm mx ml:=by
 have e1:=votes_e h1 h2 ht;show (((if x.t<tm then 0 else x.v)==0||(if x.t<tm then 0 else x.v)==fr)&&(decide ((dU x.ix x.it e.es).2<ml)||(ml==(dU x.ix x.it e.es).2&&decide ((dU x.ix x.it e.es).1≤mx))))=_;rw[e1,h3,h4,hl,Bool.or_comm (_==0)];rfl
theorem votes_nd {e:cR} {x:NDV} {fr tm mx ml:Int} (h1:x.t=e.tm) (h2:x.v=e.vo) (h3:x.ix=e.ix) (h4:x.it=e.it) (hl:(dU e.ix e.it e.es).1=e.ix+e.ln) (ht:e.tm≤tm):
  x.votes e.es (vtM e fr tm mx ml)={x with ld:=0,t:=tm,v:=(vtP e fr tm (grP e fr tm mx ml)).VO}:=by
 unfold NDV.votes;rw[votesB_grP h1 h2 h3 h4 hl ht];have e1:=votes_e h1 h2 ht;have e2:(if x.t<(vtM e fr tm mx ml).tm then (vtM e fr tm mx ml).tm else x.t)=tm:=by rw[h1];show (if e.tm<tm then tm else e.tm)=tm;split<;>omega
 rw[e2];generalize grP e fr tm mx ml=gr;cases gr with
 |false=>show ({x with ld:=0,t:=tm,v:=if x.t<tm then 0 else x.v}:NDV)={x with ld:=0,t:=tm,v:=if tm=e.tm then e.vo else 0};rw[e1]|true=>rfl
structure D27 where
 id:Int
 tm0:Int
 vo:Int
 co:Int
 ix:Int
 it:Int
 data:ByteArray
 W:Nat→Value
 n:Nat
 fl:List FV
 es:List EN
 m:tT
 gr:Bool
 tm:Int
 VV:Int
inductive O27 (d:D27):Prop where
 |mk (h1:d.n≤2147483647) (h2:(dU d.ix d.it d.es).1=d.ix+(d.n:Int)) (h3:d.tm0≤d.tm)
def D27.con (d:D27):cJ Pay where
 X:=Nat×Nat×Nat×Nat
 args:=fun(nn,b,off,cap)=>[.agg (NDV.l ⟨d.id,0,d.tm0,d.vo,d.co,d.data,d.ix,d.it,d.W,nn,b,off,d.n,cap⟩ 0),d.m.arg ⟨#[]⟩]
 pre:=fun(nn,b,off,cap)=>[.prd (.sl true nn b off cap (.sl 81 4 d.n d.fl))]
 obl:=fun _=>O27 d
 res:=fun(nn,b,off,cap) β=>.tup [.agg (NDV.l ⟨d.id,0,d.tm,d.VV,d.co,d.data,d.ix,d.it,d.W,nn,b,off,d.n,cap⟩ 0),.bl d.gr]
def D27.mat (d:D27) (args:List SV):SM Pay (d.con.X×List Nat):=match args with
 |[.agg l,_]=>match bE l 13 with
  |.sl h nn b off _ cap=>.ret ((nn,b,off,cap),[h])|_=>.fail
 |_=>.fail
theorem x27:cI 27:=⟨_,Tryz.func27,rfl,by decide⟩
structure D27ok (d:D27):Prop where
 ok:d.con.ok Tryz.prog 27
def D27.rule (d:D27) (h:D27ok d):aN:=⟨27,0,true,d.con.app d.mat,d.con.app_ok h.ok d.mat,fun h=>by cases h⟩
theorem s4 {s:iT} (hw3:s.wf3) {fr tm mx ml:Int} {K:SV→List C→Prop} (hQ:K (.bl true) s.cells) (F:HProp):
  inS Tryz.prog F 4 [.agg (s.cs 0 1 2 3 4 5),.i .u64 fr,.i .u64 tm,.i .u64 mx,.i .u64 ml] s.cells K:=by
 have hB19:=fun(K':SV→List C→Prop) F' u=>s19 (s:=s) (K:=K') hw3.fl0 hw3.es0 u F';have hB23:=fun(hw:s.wf2) (K':SV→List C→Prop) F' u=>s23 (s:=s) (K:=K') hw u F';have hB24:=fun(K':SV→List C→Prop) F' u=>s24 (id:=s.id) (W:=s.W) (m:=vtM s.set fr tm mx ml) (sx:=⟨#[]⟩) (K:=K') s.W_one u F';have hB25:=fun(hr:lD s) h1 h3 h4 (K':SV→List C→Prop) F' u=>late_vt (mx:=mx) (ml:=ml) (K:=K') (fr:=fr) (tm:=tm) hr hw3 h1 h3 h4 u F';have hB28:=fun(hr:lD s) h1 h2 h4 (K':SV→List C→Prop) F' u=>step_vt (mx:=mx) (ml:=ml) (K:=K') (fr:=fr) (tm:=tm) hr hw3 h1 h2 h4 u F';have hnd:=fun(x:NDV) h1 h2 h3 h4 hl ht=>votes_nd (e:=s.set) (x:=x) (fr:=fr) (tm:=tm) (mx:=mx) (ml:=ml) h1 h2 h3 h4 hl ht;have hnb:=fun(x:NDV) h1 h2 h3 h4 hl ht=>votesB_grP (e:=s.set) (x:=x) (fr:=fr) (tm:=tm) (mx:=mx) (ml:=ml) h1 h2 h3 h4 hl ht;obtain⟨gr,hgr⟩:∃g,g=grP s.set fr tm mx ml:=⟨_,rfl⟩;rw[←hgr] at hnd hnb hB28;obtain⟨VV,hVV⟩:∃v,v=(vtP s.set fr tm gr).VO:=⟨_,rfl⟩;rw[←hVV] at hnd;have hsv0:(tm==s.tm&&VV==s.vo&&s.co==s.co)=false→srE s.set (vtP s.set fr tm gr)=⟨true,tm,VV,s.co,mustP ((tm,VV),s.tm,s.vo)⟩:=fun h=>by rw[hVV] at h⊢;exact srE_f h
 obtain⟨id,et,ht,⟨zp,zn,zb,zo,zl,zc,Z⟩,pv,cq,ls,nf,sd,ms,mc,mu',mi,data,ix,it,⟨vp,vnn,vb,vof,vcap,vn,V⟩,⟨lp,lnn',lb',lof,lcap,en',L⟩,⟨op',onn,ob,oof,ocap,on,O⟩,⟨xp,xnn,xb,xof,xcap,xn,X⟩,al,lsp,lnn,lb,lo,lc,ll,es,fl,tm0,vo,co,ap⟩:=s;have hfl:=hw3.fl0;have hes:=hw3.es0;change fl=entR es at hfl;change es.length=ll at hes
 have hB27:=fun(hln:ll≤2147483647) (x:NDV) (hx:x.n=ll) (h1:x.t=tm0) (h2:x.v=vo) (h3:x.ix=ix) (h4:x.it=it) (hW:∀k,k<5→(x.W k).oneCell'=true) (hl:(dU ix it es).1=ix+(ll:Int)) (ht:tm0≤tm) (K':SV→List C→Prop) F' (u:K' (.tup [.agg (({x with ld:=0,t:=tm,v:=VV}:NDV).l 0),.bl gr]) [.prd (.sl true x.nn x.b x.off x.cap (.sl 81 4 x.n fl))])=>s27 (x:=x) (sp:=true) (fl:=fl) (es:=es) (m:=⟨5,id,fr,tm,ml,mx,0⟩) (sx:=⟨#[]⟩) (K:=K') hW hfl (by rw[hx];exact hes) (by rw[hx];omega) (by
  have e1:x.votes es ⟨5,id,fr,tm,ml,mx,0⟩=_:=hnd x h1 h2 h3 h4 hl ht;have e2:votesB x es ⟨5,id,fr,tm,ml,mx,0⟩=_:=hnb x h1 h2 h3 h4 hl ht
  rw[e1,e2];exact u) F'
 have h27:D27ok ⟨id,tm0,vo,co,ix,it,data,OL (.slice (slA vnn vb vof) vn vcap) (.slice (slA lnn' lb' lof) en' lcap) (.slice (slA onn ob oof) on ocap) (.slice (slA xnn xb xof) xn xcap) (.bool al),ll,fl,es,⟨5,id,fr,tm,ml,mx,0⟩,gr,tm,VV⟩:=⟨cK fun x F K ho hK=>by
  obtain⟨nn,b,off,cap⟩:=x;obtain⟨a1,a2,a3⟩:=ho
  exact hB27 a1 ⟨id,0,tm0,vo,co,data,ix,it,OL (.slice (slA vnn vb vof) vn vcap) (.slice (slA lnn' lb' lof) en' lcap) (.slice (slA onn ob oof) on ocap) (.slice (slA xnn xb xof) xn xcap) (.bool al),nn,b,off,ll,cap⟩ rfl rfl rfl rfl rfl (AU rfl) a2 a3 K F (hK (fun _=>0) trivial)⟩
 refine aF ⟨false,false⟩ (fun _=>[r26,r29,D27.rule _ h27]) (fun _=>(.cons x26 (.cons x29 (.cons x27 .nil)))) Tryz.func4 Tryz.ntmps4 rfl rfl ?_;intros;rename_i NF hNF _ _ mu hmu _ _ _ _ _ _ CM hC _ _ _ _ _ _ _ hI _ _ hN _ hP;have o26:ll≤2147483647→∀W:Nat→Value,(∀k,k<26→(W k).oneCell'=true)→O26 ⟨W,id,tm0,vo,co,ix,it,data,lsp,lnn,lb,lo,lc,ll,fl⟩:=fun hln W h=>⟨by show ll≤4294967000;omega,h⟩;cbv;repeat' first|exact O5|intro β;cbv|apply O4
 refine aD hN [0,1,2,3,4,5] (by decide) rfl ?_ ?_ (fun F1=>hB19 _ F1 (fun q1 hq1=>?_))
 ·rfl
 ·exact⟨rfl,rfl,rfl,rfl,rfl,rfl,trivial⟩
 cases q1 with
 |false=>
  cbv;repeat' first|exact O5|intro β;cbv|apply O4
  refine hP [(0,0),(1,0),(2,0),(3,0),(4,0),(5,0)] _ _ _ _ ?_ rfl ?_ hQ
  ·rfl
  ·exact aP
 |true=>
 obtain⟨hln,w1,w2,w3,w4,w5⟩:=hq1 rfl;have hw:iT.wf2 ⟨id,et,ht,⟨zp,zn,zb,zo,zl,zc,Z⟩,pv,cq,ls,nf,sd,ms,mc,mu',mi,data,ix,it,⟨vp,vnn,vb,vof,vcap,vn,V⟩,⟨lp,lnn',lb',lof,lcap,en',L⟩,⟨op',onn,ob,oof,ocap,on,O⟩,⟨xp,xnn,xb,xof,xcap,xn,X⟩,al,lsp,lnn,lb,lo,lc,ll,es,fl,tm0,vo,co,ap⟩:=⟨hfl,hes,hln,w1,w2,w3,w4,w5⟩;change ll≤2147483647 at hln;cbv;repeat' first|exact O5|intro β;cbv|apply O4
 refine aD hN [0,1,2,3,4,5] (by decide) rfl ?_ ?_ (fun F1=>hB23 hw _ F1 (fun q2 hq2=>?_))
 ·rfl
 ·exact⟨rfl,rfl,rfl,rfl,rfl,rfl,trivial⟩
 cases q2 with
 |false=>
  cbv;repeat' first|exact O5|intro β;cbv|apply O4
  refine hP [(0,0),(1,0),(2,0),(3,0),(4,0),(5,0)] _ _ _ _ ?_ rfl ?_ hQ
  ·rfl
  ·exact aP
 |true=>
 have hr:=hq2 rfl;cbv;repeat' first|exact O5|intro β;cbv|apply O4
 refine aD hN [] (by decide) rfl ?_ ?_ (fun F1=>hB24 _ F1 (fun q3 hq3=>?_))
 ·rfl
 ·exact trivial
 cases q3 with
 |false=>
  cbv;repeat' first|exact O5|intro β;cbv|apply O4
  refine hP [(0,0),(1,0),(2,0),(3,0),(4,0),(5,0)] _ _ _ _ ?_ rfl ?_ hQ
  ·rfl
  ·exact aP
 |true=>
 obtain⟨f1,f2,f3,f4,f5,f6⟩:=hq3 rfl;cbv;repeat' first|exact O5|intro β;cbv|apply O4
 rcases t2:CM .lt tm tm0 with _|_
 rotate_left
 ·have g2:tm<tm0:=by rw[hC] at t2;simpa [cmStd] using t2
  repeat (any_goals (simp only[t2];try (cbv;repeat' first|exact O5|intro β;cbv|apply O4)))
  refine aD hN [0,1,2,3,4,5] (by decide) rfl ?_ ?_ (fun F1=>hB25 hr f1 f4 g2 _ F1 ?_)
  ·rfl
  ·exact⟨rfl,rfl,rfl,rfl,rfl,rfl,trivial⟩
  cbv;repeat' first|exact O5|intro β;cbv|apply O4
  refine hP [(0,0),(1,0),(2,0),(3,0),(4,0),(5,0)] _ _ _ _ ?_ rfl ?_ hQ
  ·rfl
  ·exact aP
 have g2:tm0≤tm:=by rw[hC] at t2;simpa [cmStd] using t2
 have hli:(dU ix it es).1=ix+ll:=nD hes hr.row.2.2
 repeat (any_goals (simp only[t2];try (cbv;repeat' first|exact O5|intro β;cbv|apply O4)))
 all_goals first|exact o26 hln _ (sN rfl)|skip
 all_goals first|exact⟨hln,hli,g2⟩|exact o26 hln _ (sN rfl)|skip
 refine aD hN [0,1,2,3,4,5] (by decide) rfl ?_ ?_ (fun F1=>hB28 hr f1 f3 g2 _ F1 (fun x sn sb so sc ns sf n1 b1 o1 c1 nl les hx=>?_))
 ·rfl
 ·exact⟨rfl,rfl,rfl,rfl,rfl,rfl,trivial⟩
 obtain⟨x1,x2,x3,x4,x5,x6,x7,x8,x9,x10⟩:=hx;obtain⟨b0,b1',b2⟩:=x9 (.inr rfl);have hhas:=x8 (by decide);obtain⟨d1,d2⟩:=x6 hhas;have hsv:=x7 hhas;obtain⟨sn,rfl⟩:∃k,sn=k+1:=⟨sn-1,by omega⟩;obtain⟨ro,xld,xt,xv,xc,xap,xtg,s9,s10,s11,s12,has,hh,st,sv,xsc,s23,s24,s25,s26,s28,s29,sy,s32⟩:=x;change ro=0 at x1;change xld=0 at x2;change xt=tm at x3;change xc=co at x5;change has=true at hhas;replace x4:xv=VV:=x4.trans hVV.symm;change nl=ll at d1;change les=es at d2;have hsv2:(tm==tm0&&VV==vo&&co==co)=false→hh=true∧st=tm∧sv=VV∧xsc=co∧sy=mustP ((tm,VV),tm0,vo):=by intro h;have h0:=hsv;rw[hsv0 h] at h0;exact h0
 subst x1;subst x2;subst x3;subst hhas;subst b1';subst d1;subst d2;subst x4;subst x5;obtain⟨fl2,hf2⟩:∃f,f=entR les:=⟨_,rfl⟩;have o8:true=true→nl=nl∧fl2=fl∧∃es:List EN,fl2=entR es∧es.length=nl∧nl≤100000:=fun _=>⟨rfl,by rw[hf2,hfl],les,hf2,hes,by have:=hr.row.1;have:nl≤30:=this;omega⟩;rw[←hf2];clear x6 x7 x8 x9 x10 hsv hsv0 hVV hgr hnd hnb hB19 hB23 hB24 hB25 hB28 hB27;generalize β 1 0=a0,β 1 1=a1,β 1 2=a2,β 1 3=a3;have q1:CM .eq (Int.ofNat 1) 1=true:=by rw[hC];rfl
 have q2:CM .eq 6 6=true:=by rw[hC];rfl
 have q3:CM .eq fr fr=true:=by rw[hC];simp[cmStd]
 have q4:CM .eq id id=true:=by rw[hC];simp[cmStd]
 have q5:CM .eq xt xt=true:=by rw[hC];simp[cmStd]
 have z3:CM .eq xc xc=true:=by rw[hC];simp[cmStd]
 have z5:CM .eq xv xv=true:=by rw[hC];simp[cmStd]
 have q6:CM .lt 0 (Int.ofNat 1)=true:=by rw[hC];rfl
 have q7:CM .le 0 0=true:=by rw[hC];rfl
 have q8:∀k,k<21→CM .lt (Int.ofNat k) (Int.ofNat (mR HMul.hMul 1 21))=true:=by intro k hk;rw[hC];show decide (Int.ofNat k<Int.ofNat 21)=true;simp only[decide_eq_true_eq,Int.ofNat_eq_natCast];omega
 subst hNF;subst hmu;cases gr with
 |true=>
  change sf=MG.r ⟨6,some fr,some id,some _,none,none,none,none,none,0,none⟩ ⟨#[]⟩ at b2;subst b2;cbv;repeat' first|exact O5|intro β;cbv|apply O4
  all_goals first|exact⟨rfl,rfl,rfl,rfl,rfl,AU rfl,rfl,o8⟩|skip
  repeat (first|(refine inl @hI Tryz.func30 Tryz.ntmps30 rfl rfl ?_;cbv;repeat' first|exact O5|intro β;cbv|apply O4))
  repeat (any_goals (simp only[q1,q2,q3,q4,q5];try (cbv;repeat' first|exact O5|intro β;cbv|apply O4)))
  all_goals first|exact q6|exact q7|exact q8 _ (by decide)|exact⟨rfl,rfl,rfl,rfl,rfl,AU rfl,rfl,o8⟩|skip
  rcases z1:CM .eq xt tm0 with _|_
  ·have n1:xt≠tm0:=by rw[hC] at z1;simpa [cmStd] using z1
   have hb:(xt==tm0&&xv==vo&&xc==xc)=false:=by simp[n1]
   have w6:mustP ((xt,xv),tm0,vo)=true:=by simp[mustP,n1]
   rcases z2:CM .eq xv vo with _|_
   ·skip;obtain⟨hv1,hv2,hv3,hv4,hv5⟩:=hsv2 hb;rw[w6] at hv5;subst hv1;subst hv2;subst hv3;subst hv4;subst hv5
    repeat (any_goals (simp only[z1,z2,z3,q5,z5];try (cbv;repeat' first|exact O5|intro β;cbv|apply O4)))
    refine hP [(0,0),(1,0),(2,0),(3,0),(4,0),(5,0)] _ _ _ _ ?_ rfl ?_ hQ
    ·rfl
    ·exact aP
   ·skip;obtain⟨hv1,hv2,hv3,hv4,hv5⟩:=hsv2 hb;rw[w6] at hv5;subst hv1;subst hv2;subst hv3;subst hv4;subst hv5
    repeat (any_goals (simp only[z1,z2,z3,q5,z5];try (cbv;repeat' first|exact O5|intro β;cbv|apply O4)))
    refine hP [(0,0),(1,0),(2,0),(3,0),(4,0),(5,0)] _ _ _ _ ?_ rfl ?_ hQ
    ·rfl
    ·exact aP
  ·rcases z2:CM .eq xv vo with _|_
   ·have n1:xv≠vo:=by rw[hC] at z2;simpa [cmStd] using z2
    have hb:(xt==tm0&&xv==vo&&xc==xc)=false:=by simp[n1]
    have w6:mustP ((xt,xv),tm0,vo)=true:=by simp[mustP,n1]
    obtain⟨hv1,hv2,hv3,hv4,hv5⟩:=hsv2 hb;rw[w6] at hv5;subst hv1;subst hv2;subst hv3;subst hv4;subst hv5
    repeat (any_goals (simp only[z1,z2,z3,q5,z5];try (cbv;repeat' first|exact O5|intro β;cbv|apply O4)))
    refine hP [(0,0),(1,0),(2,0),(3,0),(4,0),(5,0)] _ _ _ _ ?_ rfl ?_ hQ
    ·rfl
    ·exact aP
   ·repeat (any_goals (simp only[z1,z2,z3];try (cbv;repeat' first|exact O5|intro β;cbv|apply O4)))
    refine hP [(0,0),(1,0),(2,0),(3,0),(4,0),(5,0)] _ _ _ _ ?_ rfl ?_ hQ
    ·rfl
    ·exact aP
 |false=>
  change sf=MG.r ⟨6,some fr,some id,some _,none,none,none,some true,none,0,none⟩ ⟨#[]⟩ at b2;subst b2;cbv;repeat' first|exact O5|intro β;cbv|apply O4
  all_goals first|exact⟨rfl,rfl,rfl,rfl,rfl,AU rfl,rfl,o8⟩|skip
  repeat (first|(refine inl @hI Tryz.func30 Tryz.ntmps30 rfl rfl ?_;cbv;repeat' first|exact O5|intro β;cbv|apply O4))
  repeat (any_goals (simp only[q1,q2,q3,q4,q5];try (cbv;repeat' first|exact O5|intro β;cbv|apply O4)))
  all_goals first|exact q6|exact q7|exact q8 _ (by decide)|exact⟨rfl,rfl,rfl,rfl,rfl,AU rfl,rfl,o8⟩|skip
  rcases z1:CM .eq xt tm0 with _|_
  ·have n1:xt≠tm0:=by rw[hC] at z1;simpa [cmStd] using z1
   have hb:(xt==tm0&&xv==vo&&xc==xc)=false:=by simp[n1]
   have w6:mustP ((xt,xv),tm0,vo)=true:=by simp[mustP,n1]
   rcases z2:CM .eq xv vo with _|_
   ·skip;obtain⟨hv1,hv2,hv3,hv4,hv5⟩:=hsv2 hb;rw[w6] at hv5;subst hv1;subst hv2;subst hv3;subst hv4;subst hv5
    repeat (any_goals (simp only[z1,z2,z3,q5,z5];try (cbv;repeat' first|exact O5|intro β;cbv|apply O4)))
    refine hP [(0,0),(1,0),(2,0),(3,0),(4,0),(5,0)] _ _ _ _ ?_ rfl ?_ hQ
    ·rfl
    ·exact aP
   ·skip;obtain⟨hv1,hv2,hv3,hv4,hv5⟩:=hsv2 hb;rw[w6] at hv5;subst hv1;subst hv2;subst hv3;subst hv4;subst hv5
    repeat (any_goals (simp only[z1,z2,z3,q5,z5];try (cbv;repeat' first|exact O5|intro β;cbv|apply O4)))
    refine hP [(0,0),(1,0),(2,0),(3,0),(4,0),(5,0)] _ _ _ _ ?_ rfl ?_ hQ
    ·rfl
    ·exact aP
  ·rcases z2:CM .eq xv vo with _|_
   ·have n1:xv≠vo:=by rw[hC] at z2;simpa [cmStd] using z2
    have hb:(xt==tm0&&xv==vo&&xc==xc)=false:=by simp[n1]
    have w6:mustP ((xt,xv),tm0,vo)=true:=by simp[mustP,n1]
    obtain⟨hv1,hv2,hv3,hv4,hv5⟩:=hsv2 hb;rw[w6] at hv5;subst hv1;subst hv2;subst hv3;subst hv4;subst hv5
    repeat (any_goals (simp only[z1,z2,z3,q5,z5];try (cbv;repeat' first|exact O5|intro β;cbv|apply O4)))
    refine hP [(0,0),(1,0),(2,0),(3,0),(4,0),(5,0)] _ _ _ _ ?_ rfl ?_ hQ
    ·rfl
    ·exact aP
   ·repeat (any_goals (simp only[z1,z2,z3];try (cbv;repeat' first|exact O5|intro β;cbv|apply O4)))
    refine hP [(0,0),(1,0),(2,0),(3,0),(4,0),(5,0)] _ _ _ _ ?_ rfl ?_ hQ
    ·rfl
    ·exact aP
end Go.Sx
