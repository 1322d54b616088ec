import Derived.Test.YtjikgjdicpggkaaGreatX16
set_option autoImplicit true
set_option relaxedAutoImplicit true
set_option linter.all false
set_option maxRecDepth 100000
set_option maxHeartbeats 4000000
namespace Go.Sx
open Go Go.Proofs
structure cR where
 id:Int
 et:Int
 ht:Int
 z:ZF
 pv:Bool
 cq:Bool
 ls:Bool
 nf:Bool
 sd:Bool
 ms:Int
 mc:Int
 mi:Int
 data:ByteArray
 ix:Int
 it:Int
 V:UL
 L:UL
 O:UL
 X:UL
 lsp:Bool
 lnn:Nat
 lb:Nat
 lo:Nat
 lc:Nat
 ln:Nat
 es:List EN
 fl:List FV
 tm:Int
 vo:Int
 co:Int
 ap:Int
def cR.logC (s:cR):C:=.prd (.sl s.lsp s.lnn s.lb s.lo s.lc (.sl 81 4 s.ln s.fl))
def cR.zC (s:cR):C:=.prd (.sl s.z.sp s.z.n s.z.b s.z.o s.z.c (.ul 3 .i64 s.z.l s.z.Z))
def cR.cs (s:cR) (h1 h2 h3 h4 h5 h6:Nat):List SV:=[.i .u64 s.id,.i .i64 s.et,.i .i64 s.ht,.sl h1 s.z.n s.z.b s.z.o s.z.l s.z.c,.bl s.pv,.bl s.cq,.bl s.ls,.bl s.nf,.bl s.sd,.i .u64 s.ms,.i .u64 s.mc,.i .u64 0,.i .i64 s.mi,
 .v (.string s.data),.i .u64 s.ix,.i .u64 s.it,s.V.sv h2,s.L.sv h3,s.O.sv h4,s.X.sv h5,.bl false,.sl h6 s.lnn s.lb s.lo s.ln s.lc,.i .u64 s.tm,.i .u64 s.vo,.i .u64 s.co,.i .u64 s.ap]
structure cR.ok (s:cR):Prop where
 id0:0<s.id
 id1:s.id<1099511627776
 ht0:1≤s.ht
 et0:s.ht<s.et
 et1:s.et≤30
 ms0:1048576≤s.ms
 mc0:1048576≤s.mc
 mi0:1≤s.mi
 mi1:s.mi≤100
 ls0:s.ls=true→s.cq=true
 z0:s.z.l≤1000
 cc:ccP s.V.l s.L.l
 V9:s.V.l.length≤9
 L4:s.L.l.length≤4
 Vn:s.V.n=s.V.l.length
 Ln:s.L.n=s.L.l.length
 On:s.O.n=0
 Xn:s.X.n=0
 Ol:s.O.l=[]
 Xl:s.X.l=[]
 es1:s.es.length=s.ln
 es2:s.ln≤30
 fl0:s.fl=entR s.es
 ek:∀e∈s.es,e.k=0
 e0:s.es=[]∨∃e r,s.es=e::r∧e.i=s.ix+1
 d0:tfStd.sz s.data≤4294967296
 ix0:1≤s.ix
 ix1:s.ix≤1099511627776
 tm0:1≤s.tm
 co0:s.ix≤s.co
 co1:s.co≤s.ix+s.ln
 ap0:s.ap=0∨s.ix≤s.ap∧s.ap≤s.co
def EZ (ls:Bool):Int:=match ls with
 |true=>1|false=>0
theorem s68 {s:cR} {nb:Nat} {off1 apv rt2 nx2 am:Int} {en1:Nat} {K:SV→List C→Prop} (hs:s.ok) (hen1:en1=1+s.ln) (hoff:off1=s.ix+s.ln+1) (hapv:apv=if s.ap=0 then s.ix else s.ap) (hrt:rt2=EB s.et (rndP (s.z.Z,s.z.l,0,s.et))) (hnx3:nx2=nxP (s.z.l,0)) (ham:am=apv)
  (hKK:∀(b lb vb pb wb ob ab sb hv sv nn2 eb3 off2 cap2 rnb ssb hdb cfb:Nat) (lf sp2:Bool) (o:LL) (P2:MQ) (d0 d1 d2 d3 d4 d5:Int),TrkOK s.V.l s.L.l P2→LLOK s.L.l o→(match sp2 with|true=>True|false=>Nat.ble cap2 en1=true)→
   K (.bl false) (yT ⟨b,s.id,s.tm,s.vo,lb,s.ms,vb,pb,wb,s.mi,0,s.cq,s.pv,s.ht,s.et,rt2,s.nf,s.sd,ob,nx2⟩ o lf s.V.l P2 ⟨off1,s.co,apv,apv,s.mc,0,false⟩ (EZ s.ls) ab s.z
    ⟨sb,.v (.pointer (some ⟨hv,0,none⟩)),.v (.pointer (some ⟨sv,0,none⟩)),nn2,eb3,off2,cap2,en1,d0,d1,d2,d3,d4,d5,sp2,s.it,s.ix,.oi 306 .i32 none,.bys 5 0 none,entPs s.es⟩++
    [.raw true nb 135 (s.cs 7 16 17 18 19 20++[.bl false,.ptr 12 rnb 0,.ptr 8 sb 0,.i .u64 am,.ptr 15 cfb 0]),.raw true rnb 243 [.ptr 0 b 0,.bl false,.ptr 13 ssb 0,.ptr 14 hdb 0,.v (.slice none 0 0)],.raw true ssb 166 [.i .u64 0,.i .u64 0],.prd (.st hdb 226 (oN s.tm s.vo s.co)),
     .prd (.st cfb 229 (sP (s.V.n,s.V.l) (s.L.n,s.L.l) (0,[]) (0,[]) (some false))),s.V.cel,s.L.cel,s.O.cel,s.X.cel,s.logC])) (F:HProp):
  inS Tryz.prog F 68 [.ptr 0 nb 0] [.raw true nb 135 (s.cs 1 2 3 4 5 6++[.bl false,.v (.pointer none),.v (.pointer none),.i .u64 0,.v (.pointer none)]),s.zC,s.V.cel,s.L.cel,s.O.cel,s.X.cel,s.logC] K:=by
 obtain⟨id,et,ht,⟨zp,zn,zb,zo,zl,zc,Z⟩,pv,cq,ls,nf,sd,ms,mc,mi,data,ix,it,⟨vp,vnn,vb,vof,vcap,vn,V⟩,⟨lp,lnn',lb',lof,lcap,en',L⟩,⟨op',onn,ob,oof,ocap,on,O⟩,⟨xp,xnn,xb,xof,xcap,xn,X⟩,lsp,lnn,lb,lo,lc,en,es,fl,tm,vo,co,ap⟩:=s;obtain⟨i1,i2,i3,i4,i5,i6,i7,i8,i9,i10,i11,cc,V9,L4,Vn,Ln,On,Xn,Ol,Xl,hes,hes2,hfl,hek,he0,hd,hix,hix2,tm0,co0,co1,ap0⟩:=hs;change 0<id at i1;change id<1099511627776 at i2;change 1≤ht at i3;change ht<et at i4;change et≤30 at i5;change 1048576≤ms at i6;change 1048576≤mc at i7;change 1≤mi at i8;change mi≤100 at i9;change ls=true→cq=true at i10;change zl≤1000 at i11;change ccP V L at cc;change V.length≤9 at V9;change L.length≤4 at L4;change vn=V.length at Vn;change en'=L.length at Ln;change on=0 at On;change xn=0 at Xn;change O=[] at Ol;change X=[] at Xl;change es.length=en at hes;change en≤30 at hes2;change∀e∈es,e.k=0 at hek;change es=[]∨∃e r,es=e::r∧e.i=ix+1 at he0;change fl=entR es at hfl;change tfStd.sz data≤4294967296 at hd;change 1≤ix at hix;change ix≤1099511627776 at hix2;change 1≤tm at tm0;change ix≤co at co0;change co≤ix+(en:Int) at co1;change ap=0∨ix≤ap∧ap≤co at ap0;change en1=1+en at hen1;change off1=ix+(en:Int)+1 at hoff;change apv=if ap=0 then ix else ap at hapv;change rt2=EB et (rndP (Z,zl,0,et)) at hrt;change nx2=nxP (zl,0) at hnx3
 subst On;subst Xn;subst Ol;subst Xl;refine aF ⟨false,false⟩ (fun TX=>[r85 TX,r87 TX,r89,r90,r88,rE,rC]) (fun _=>(.cons x85 (.cons x87 (.cons x89 (.cons x90 (.cons x88 (.cons rB (.cons rO .nil)))))))) Tryz.func68 Tryz.ntmps68 rfl rfl ?_;intros;rename_i TX hTX _ _ AR hA _ _ _ _ _ _ _ _ hU hI hL _ hN hsat hP;have hmx:AR .max .u64 ap ix=am:=by
  rw[hA,ham,hapv];simp only[arStd];rcases ap0 with h|h
  ·rw[if_pos h,h];split<;>omega
  ·have:ap≠0:=by omega
   rw[if_neg this];split<;>omega
 have hlast:∃tl a b c,nth (.st 212 [.oi 22 .u64 (some it),.oi 22 .u64 (some ix),.oi 306 .i32 none,.bys 5 0 none]::entPs es) (en1-1)=.st 212 [.oi 22 .u64 (some tl),a,b,c]:=by
  rw[hen1,Nat.add_sub_cancel_left];rcases Nat.eq_zero_or_pos en with h|h
  ·rw[h];exact⟨_,_,_,_,rfl⟩
  ·obtain⟨k,hk⟩:∃k,en=k+1:=⟨en-1,by omega⟩;obtain⟨e,he⟩:∃e,es[k]?=some e:=⟨es[k]'(by omega),by simp⟩;rw[hk];have:nth (entPs es) k=rG e:=pJ _ _ _ (by rw[entPs,List.getElem?_map,he];rfl);exact⟨_,_,_,_,this⟩
 have hoff3:off1=ix+(en1:Int):=by rw[hoff,hen1];omega
 have hco3:co≤ix+(en1:Int)-1:=by rw[hen1];omega
 have hT0:=jX.self hTX data;have hLT0:rU en fl (TX.ap uN fl):=rU.self hTX es hfl hes hek;obtain⟨tz,tls,tt,to,apx⟩:=TX;have hap:∀{α β:Type} (f:α→β) (x:α),apx f x=f x:=fun f x=>congrArg (fun t:TF=>t.ap f x) hTX;have hT:jX data (tz data) (to data):=hT0;have hLT:rU en fl (apx uN fl):=hLT0;obtain⟨pl,hpl⟩:∃pl,apx uN fl=pl:=⟨_,rfl⟩;have w1:vn≤4294967296:=by omega
 have w2:en'≤4294967296:=by omega
 have w3:0≤4294967296:=by omega
 have w5:en≤100000:=by omega
 have w6:tz data≤4294967296:=by have e:tz data=tfStd.sz data:=congrArg (fun t:TF=>t.sz data) hTX;rw[e];exact hd
 have hpl2:pl=entPs es:=by rw[←hpl,hap,hfl];show entPs (A9 (entR es))=_;rw[wZ]
 obtain⟨a1,a3,a4,hp86⟩:∃a1 a3 a4,en=0∧pl=[]∨1≤en∧nth pl 0=.st 212 [a1,.oi 22 .u64 (some (ix+(1:Nat))),a3,a4]:=by
  rcases he0 with h|⟨e,r,h,he⟩
  ·exact⟨.np,.np,.np,.inl ⟨by rw[←hes,h];rfl,by rw[hpl2,h];rfl⟩⟩
  ·refine⟨.oi 22 .u64 (some e.t),.oi 306 .i32 none,.bys 5 (tfStd.sz e.s) (tfStd.o e.s),.inr ⟨by rw[←hes,h];simp,?_⟩⟩;rw[hpl2,h];show rG e=_;rw[rG,he];rfl
 cbv;repeat' first|exact O5|intro β;cbv|apply O4|apply hT;done|apply w1;done|apply w2;done|apply w3;done|apply w5;done
 refine aD hN [] (by decide) rfl ?_ ?_ (s83 (fun sb snb rb=>?_))
 ·rfl
 ·trivial
 cbv;repeat' first|exact O5|intro β;cbv|apply O4|apply hT;done|apply w1;done|apply w2;done|apply w3;done|apply w5;done
 refine aD hN [7,8,11] (by decide) rfl ?_ ?_ (s84 (b:=sb) (ob:=snb) (nb:=β 9 0) (r:=fun k=>match k with|0=>.v (.pointer none)|1=>.v (.pointer none)|2=>.v (.slice (some ⟨rb,0,none⟩) 1 1)|_=>.v (.int .i64 0)) (m:=tz data) (d:=to data) (cs:=⟨(vn,V),(en',L),(0,[]),(0,[]),some false⟩) (i:=ix) (t:=it) (a':=false) ⟨w1,w2,w3,w3⟩ rfl ?_ (fun cb rb2 eb2=>?_))
 ·rfl
 ·exact⟨⟨rfl,rfl,rfl,rfl⟩,rfl,rfl,trivial⟩
 ·exact w6
 cbv;repeat' first|exact O5|intro β;cbv|apply O4|apply hT;done|apply w1;done|apply w2;done|apply w3;done|apply w5;done
 simp only[hpl];refine mQ hN 18 19 (.prd (.sl false 1 rb2 0 1 (.sl 209 1 1 [.st 212 [.oi 22 .u64 (some it),.oi 22 .u64 (some ix),.oi 306 .i32 none,.bys 5 0 none]]))) (by decide) rfl rfl (BA 209 212 eb2 rb2 19 _) ?_;refine aD hN [7,18,14] (by decide) rfl ?_ ?_ (s86 (s:=⟨sb,.v (.pointer none),.v (.pointer (some ⟨cb,0,none⟩)),0,rb2,0,1,1,0,0,0,0,0,0,false,it,ix,.oi 306 .i32 none,.bys 5 0 none,[]⟩) (sp':=true) (nn':=β 22 0) (eb':=β 22 1) (off':=β 22 2) (cap':=β 22 3) (m:=en) (pl:=pl) (a1:=a1) (a3:=a3) (a4:=a4) w5 (Nat.le_refl _) (by show 1≤100000;omega) (by show 0≤ix;omega) hix2 rfl hp86 (fun sp2 nn2 eb3 off2 cap2 hsp2=>?_))
 ·rfl
 ·exact⟨⟨rfl,rfl,rfl,rfl⟩,rfl,rfl,trivial⟩
 rw[←hen1];cbv;repeat' first|exact O5|intro β;cbv|apply O4|apply hT;done|apply w1;done|apply w2;done|apply w3;done|apply w5;done
 refine inl @hI Tryz.func91 Tryz.ntmps91 rfl rfl ?_;cbv;repeat' first|exact O5|intro β;cbv|apply O4|apply hT;done|apply w1;done|apply w2;done|apply w3;done|apply w5;done
 simp only[hmx];cases ls with
 |false=>
  cbv;repeat' first|exact O5|intro β;cbv|apply O4|apply hT;done|apply w1;done|apply w2;done|apply w3;done|apply w5;done
  refine inl @hI Tryz.func132 Tryz.ntmps132 rfl rfl ?_;cbv;repeat' first|exact O5|intro β;cbv|apply O4|apply hT;done|apply w1;done|apply w2;done|apply w3;done|apply w5;done
  rename_i b9 b22 bH bCf bx bB
  refine aD hN [24,7,18,16,17,1] (by decide) rfl ?_ ?_ (s169 (c:=⟨id,et,ht,ap,ms,mc,mi,cq,pv,0,nf,sd⟩) ⟨i1,i2,i3,i4,i5,i6,i7,i8,i9,(.inl rfl),(fun h=>by cases h)⟩ (cb:=β 31 0) (zn:=zn) (zb:=zb) (zo:=zo) (zl:=zl) (zc:=zc) (hsb:=bH 36 0) (mb:=cb) (spz:=zp) (Z:=Z) (s:=⟨sb,.v (.pointer (some ⟨bH 36 0,0,none⟩)),.v (.pointer (some ⟨cb,0,none⟩)),nn2,eb3,off2,cap2,en1,0,0,0,0,0,0,sp2,it,ix,.oi 306 .i32 none,.bys 5 0 none,entPs es⟩) (V:=V) (L:=L) (nv:=vn) (nl:=en') (m:=tz data) (d:=to data) (tm:=tm) (vo:=vo) (co:=co) (ix:=ix) (it:=it) (rt2:=rt2) (nx2:=nx2) (off1:=off1) (apv:=apv)
   cc V9 L4 Vn Ln (by show 0≤ix;omega) hix2 (by show 1≤en1;omega) (by show en1≤100000;omega) i11 hrt hnx3 hix tm0 co0 hco3 ap0 hlast hoff3 hapv (fun b lb vb pb wb ob ab lf o P2 d0 d1 d2 d3 d4 d5 hTT hOO=>?_))
  ·rfl
  ·exact⟨⟨rfl,rfl,rfl,rfl⟩,⟨rfl,rfl,rfl,rfl⟩,congrArg (fun z=>Pay.sl sp2 (nn2+1) eb3 off2 cap2 (.sl 209 1 en1 (.st 212 [.oi 22 .u64 (some it),.oi 22 .u64 (some ix),.oi 306 .i32 none,.bys 5 0 none]::z))) hpl2,rfl,rfl,rfl,trivial⟩
  cbv;repeat' first|exact O5|intro β;cbv|apply O4|apply hT;done|apply w1;done|apply w2;done|apply w3;done|apply w5;done
  rename_i bRn bSs;have hk:=hKK b lb vb pb wb ob ab sb (bH 36 0) cb nn2 eb3 off2 cap2 (bRn 0) (bSs 0) (β 0) (bCf 0) lf sp2 o P2 d0 d1 d2 d3 d4 d5 hTT hOO (by rw[hen1];exact hsp2);rcases o with _|⟨oc,ol⟩
  ·refine hP [(30,0),(7,0),(18,0),(16,0),(17,0),(1,0),(25,0),(26,0),(27,0),(28,0),(29,0),(0,0),(31,0),(32,0),(33,0),(20,0),(2,0),(3,0),(4,0),(5,0),(6,0)] _ _ _ _ ?_ rfl ?_ hk
   ·rfl
   ·exact(by cbv;repeat' first|exact lg|apply O4|exact hPL|(simp;done))
  ·refine hP [(30,0),(7,0),(18,0),(16,0),(17,0),(1,0),(25,0),(26,0),(27,0),(28,0),(29,0),(0,0),(31,0),(32,0),(33,0),(20,0),(2,0),(3,0),(4,0),(5,0),(6,0)] _ _ _ _ ?_ rfl ?_ hk
   ·rfl
   ·exact(by cbv;repeat' first|exact lg|apply O4|exact hPL|(simp;done))
 |true=>
  cbv;repeat' first|exact O5|intro β;cbv|apply O4|apply hT;done|apply w1;done|apply w2;done|apply w3;done|apply w5;done
  refine inl @hI Tryz.func132 Tryz.ntmps132 rfl rfl ?_;cbv;repeat' first|exact O5|intro β;cbv|apply O4|apply hT;done|apply w1;done|apply w2;done|apply w3;done|apply w5;done
  rename_i b9 b22 bH bCf bx bB
  refine aD hN [24,7,18,16,17,1] (by decide) rfl ?_ ?_ (s169 (c:=⟨id,et,ht,ap,ms,mc,mi,cq,pv,1,nf,sd⟩) ⟨i1,i2,i3,i4,i5,i6,i7,i8,i9,(.inr rfl),(fun h=>i10 rfl)⟩ (cb:=β 31 0) (zn:=zn) (zb:=zb) (zo:=zo) (zl:=zl) (zc:=zc) (hsb:=bH 36 0) (mb:=cb) (spz:=zp) (Z:=Z) (s:=⟨sb,.v (.pointer (some ⟨bH 36 0,0,none⟩)),.v (.pointer (some ⟨cb,0,none⟩)),nn2,eb3,off2,cap2,en1,0,0,0,0,0,0,sp2,it,ix,.oi 306 .i32 none,.bys 5 0 none,entPs es⟩) (V:=V) (L:=L) (nv:=vn) (nl:=en') (m:=tz data) (d:=to data) (tm:=tm) (vo:=vo) (co:=co) (ix:=ix) (it:=it) (rt2:=rt2) (nx2:=nx2) (off1:=off1) (apv:=apv)
   cc V9 L4 Vn Ln (by show 0≤ix;omega) hix2 (by show 1≤en1;omega) (by show en1≤100000;omega) i11 hrt hnx3 hix tm0 co0 hco3 ap0 hlast hoff3 hapv (fun b lb vb pb wb ob ab lf o P2 d0 d1 d2 d3 d4 d5 hTT hOO=>?_))
  ·rfl
  ·exact⟨⟨rfl,rfl,rfl,rfl⟩,⟨rfl,rfl,rfl,rfl⟩,congrArg (fun z=>Pay.sl sp2 (nn2+1) eb3 off2 cap2 (.sl 209 1 en1 (.st 212 [.oi 22 .u64 (some it),.oi 22 .u64 (some ix),.oi 306 .i32 none,.bys 5 0 none]::z))) hpl2,rfl,rfl,rfl,trivial⟩
  cbv;repeat' first|exact O5|intro β;cbv|apply O4|apply hT;done|apply w1;done|apply w2;done|apply w3;done|apply w5;done
  rename_i bRn bSs;have hk:=hKK b lb vb pb wb ob ab sb (bH 36 0) cb nn2 eb3 off2 cap2 (bRn 0) (bSs 0) (β 0) (bCf 0) lf sp2 o P2 d0 d1 d2 d3 d4 d5 hTT hOO (by rw[hen1];exact hsp2);rcases o with _|⟨oc,ol⟩
  ·refine hP [(30,0),(7,0),(18,0),(16,0),(17,0),(1,0),(25,0),(26,0),(27,0),(28,0),(29,0),(0,0),(31,0),(32,0),(33,0),(20,0),(2,0),(3,0),(4,0),(5,0),(6,0)] _ _ _ _ ?_ rfl ?_ hk
   ·rfl
   ·exact(by cbv;repeat' first|exact lg|apply O4|exact hPL|(simp;done))
  ·refine hP [(30,0),(7,0),(18,0),(16,0),(17,0),(1,0),(25,0),(26,0),(27,0),(28,0),(29,0),(0,0),(31,0),(32,0),(33,0),(20,0),(2,0),(3,0),(4,0),(5,0),(6,0)] _ _ _ _ ?_ rfl ?_ hk
   ·rfl
   ·exact(by cbv;repeat' first|exact lg|apply O4|exact hPL|(simp;done))
def JC:cJ Pay where
 X:=Unit
 args:=fun _=>[.v (.slice none 0 0)]
 pre:=fun _=>[]
 res:=fun _ _=>.v (.slice none 0 0)
theorem J2:JC.ok Tryz.prog 87:=by
 refine aJ ⟨false,false⟩ (fun _=>[]) (fun _=>.nil) _ Tryz.func87 Tryz.ntmps87 rfl rfl ?_;intros;rename_i hU _ _ _ x _ _ _ _ hP;cases x;cbv;repeat' first|exact O5|intro β;cbv|apply O4
 refine hU 1 (by decide+kernel) ?_;cbv;repeat' first|exact O5|intro β;cbv|apply O4
 exact hP (fun _=>0) [] _ _ rfl bM
def m87n (args:List SV):SM Pay (JC.X×List Nat):=.ret ((),[])
theorem x87n:cI 87:=⟨_,Tryz.func87,rfl,by decide⟩
def r87n:aN:=⟨87,0,true,JC.app m87n,JC.app_ok J2 m87n,fun h=>by cases h⟩
theorem mD (a b:Nat):(ptV a b).oneCell'=true:=by cases a<;>rfl
structure tT where
 k:Int
 to:Int
 fr:Int
 tm:Int
 lt:Int
 ix:Int
 cm:Int
def tT.arg (m:tT) (s:ByteArray):SV:=.agg [.i .i64 m.k,.i .u64 m.to,.i .u64 m.fr,.i .u64 m.tm,.i .u64 m.lt,.i .u64 m.ix,.i .u64 m.cm,.i .u64 0,.i .u64 0,.v (.slice none 0 0),
 .v (.string ⟨#[]⟩),.i .u64 0,.i .u64 0,.v (.slice none 0 0),.v (.slice none 0 0),.v (.slice none 0 0),.v (.slice none 0 0),.bl false,.bl false,.v (.string s),.v (.slice none 0 0)]
def tT.fs (m:tT) (n:Nat) (d:Option (List UInt8)):List FV:=[.oi 266 .i32 (some m.k),.oi 22 .u64 (nz m.to),.oi 22 .u64 (nz m.fr),.oi 22 .u64 (nz m.tm),.oi 22 .u64 (nz m.lt),.oi 22 .u64 (nz m.ix),.sl 209 1 0 [],.oi 22 .u64 (nz m.cm),.oi 22 .u64 none,.np,.ob 4 none,.oi 22 .u64 none,.bys 5 n d,.sl 176 1 0 []]
inductive O100 (k:Int):Prop where
 |mk (h1:0≤k) (h2:k≤100)
def FZ:cJ Pay where
 X:=tT×ByteArray×Nat×Option (List UInt8)
 args:=fun(m,s,n,d)=>[m.arg s]
 pre:=fun _=>[]
 obl:=fun(m,s,n,d)=>jX s n d∧O100 m.k
 nf:=1
 res:=fun _ β=>.ptr 0 (β 0) 0
 ws:=fun(m,s,n,d) β=>[.cel 0 (.prd (.st (β 0) 269 (m.fs n d)))]
theorem G9:FZ.ok Tryz.prog 100:=by
 refine aJ ⟨false,false⟩ (fun TX=>[r146,r87n,NB TX]) (fun _=>(.cons x146 (.cons x87n (.cons M4 .nil)))) _ Tryz.func100 Tryz.ntmps100 rfl rfl ?_;intros;rename_i SE hE _ _ _ hTX _ _ AR hA CM _ _ _ _ _ _ _ hU hI hL _ x _ _ ho hsat hP;obtain⟨⟨k,to',fr,tm,lt,ix,cm⟩,s,n,d⟩:=x;obtain⟨⟨h5,h6⟩,h1,h2⟩:=ho;change 0≤k at h1;change k≤100 at h2;rw[←hTX] at h5 h6;subst h5;subst h6;have hT:=jX.self hTX s;have a1:AR .conv .i32 k 0=k:=by rw[hA];show IntKind.i32.wrap _=_;rw[IntKind.wrap_i32];omega
 have hse:SE ⟨#[]⟩ ⟨#[]⟩=true:=by rw[hE];first|rfl|decide+kernel|simp[seStd]
 have hpt:=mD;have c0:CM .ne 0 0=false:=O6;have c1:CM .lt 0 0=false:=O6;cbv;repeat' first|exact O5|intro β;cbv|apply O4|apply hT;done|apply mD;done
 repeat (any_goals (simp only[a1,c0,c1,hse];try (cbv;repeat' first|exact O5|intro β;cbv|apply O4|apply hT;done|apply mD;done)))
 refine hU 1 (by decide+kernel) ?_;cbv;repeat' first|exact O5|intro β;cbv|apply O4|apply hT;done|apply mD;done
 repeat (any_goals (simp only[c1];try (cbv;repeat' first|exact O5|intro β;cbv|apply O4|apply hT;done|apply mD;done)))
 rename_i b5 b4 b3 b2 b1 b0;exact hP (fun _=>b5 35 0) [(12,1)] _ _ rfl bM
def m100 (TX:TF) (args:List SV):SM Pay (FZ.X×List Nat):=match args with
 |[.agg (k::to'::fr::tm::lt::ix::cm::_::_::_::_::_::_::_::_::_::_::_::_:: .v (.string s)::_)]=>match bG k,bG to',bG fr,bG tm,bG lt,bG ix,bG cm with
  |some (_,_,k),some (_,_,to'),some (_,_,fr),some (_,_,tm),some (_,_,lt),some (_,_,ix),some (_,_,cm)=>.ret ((⟨k,to',fr,tm,lt,ix,cm⟩,s,TX.sz s,TX.o s),[])|_,_,_,_,_,_,_=>.fail
 |_=>.fail
theorem x100:cI 100:=⟨_,Tryz.func100,rfl,by decide⟩
def r100 (TX:TF):aN:=⟨100,1,true,FZ.app (m100 TX),FZ.app_ok G9 (m100 TX),fun h=>by cases h⟩
def GF:cJ Pay where
 X:=Int
 args:=fun k=>[.i .i32 k]
 pre:=fun _=>[]
 nf:=1
 res:=fun _ β=>.ptr 0 (β 0) 0
 ws:=fun k β=>[.cel 0 (.raw true (β 0) 266 [.i .i32 k])]
theorem IA:GF.ok Tryz.prog 140:=by
 refine aJ ⟨false,false⟩ (fun _=>[]) (fun _=>.nil) _ Tryz.func140 Tryz.ntmps140 rfl rfl ?_;intros;rename_i x _ _ _ _ hP;change Int at x;cbv;repeat' first|exact O5|intro β;cbv|apply O4
 exact hP β [(0,0)] _ _ rfl bM
def m140 (args:List SV):SM Pay (GF.X×List Nat):=match args with
 |[n]=>match bG n with
  |some (_,_,n)=>.ret (n,[])|none=>.fail
 |_=>.fail
theorem nU:cI 140:=⟨_,Tryz.func140,rfl,by decide⟩
def nH:aN:=⟨140,1,true,GF.app m140,GF.app_ok IA m140,fun h=>by cases h⟩
inductive O191 (k:Int):Prop where
 |mk (h:k=5)
end Go.Sx
