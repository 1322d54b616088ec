import Derived.Test.YtjikgjdicpggkaaGreatX17
import Derived.Test.YtjikgjdicpggkaaGreatX23
import Derived.Test.YtjikgjdicpggkaaGreatY24
set_option autoImplicit true
set_option relaxedAutoImplicit true
set_option linter.all false
set_option maxRecDepth 100000
set_option maxHeartbeats 4000000
namespace Go.Sx
open Go Go.Proofs
theorem s139lv {x:RF} {lf:Bool} {o:LL} {V L:List Int} {P':MQ} {s:STO} {g:LGF} {h1 h2:Value} {z:ZF} {ro:Int} {to fr tm:Int} {oIzq oTzq:Option Int} {ab mb:Nat} {K:SV→List C→Prop}
  (htm:1≤tm) (ht:tm<x.term)
  (hk:K (.v .nilIface) (fI x o lf (.v (.slice none 0 0)) (.v (.slice none 0 0)) V P' g ro ab z {s with hs:=.v h1,sn:=.v h2})) (F:HProp):
  inS Tryz.prog F 139 [.ptr 0 x.b 0,.ptr 11 mb 0]
   (fI x o lf (.v (.slice none 0 0)) (.v (.slice none 0 0)) V P' g ro ab z {s with hs:=.v h1,sn:=.v h2}++[.prd (.st mb 269 (rvF to fr tm oTzq oIzq))]) K:=by
 obtain⟨b,id,term,vote,lb,ms,vb,pb,wb,mi,lead,cq,pv,hT',et,rt,nf,sd,ob,nx⟩:=x;obtain⟨g1,g2,g3,g4,g5,g6,g7⟩:=g;obtain⟨sb,hs,sn',nn,eb,off,cap,n,k0,k1,k2,k3,k4,k5,sp,t0,i0,f3,f4,es⟩:=s;obtain⟨zp,zn,zb,zo,zl,zc,Z⟩:=z;change tm<term at ht;refine aF ⟨false,false⟩ (fun TX=>[vB TX,wS,AO,zK,C0,nH,qW,CP]) (fun _=>(.cons uH (.cons xI (.cons zX (.cons AI (.cons EM (.cons nU (.cons qX (.cons B8 .nil))))))))) Tryz.func139 Tryz.ntmps139 rfl rfl ?_;intros;rename_i CM _ _ _ _ _ _ _ _ _ _ _ _ _ hP;have c1:CM .eq tm 0=false:=O6;have c2:CM .lt term tm=false:=O6;have c3:CM .lt tm term=true:=O6;have w58:CM .eq 5 8=false:=O6;have w53:CM .eq 5 3=false:=O6;have w517:CM .eq 5 17=false:=O6;have w520:CM .eq 5 20=false:=O6;cbv;repeat' first|exact O5|intro β;cbv|apply O4
 repeat (any_goals (simp only[c1,c2,c3];try (cbv;repeat' first|exact O5|intro β;cbv|apply O4)))
 rcases cq with _|_<;>rcases pv with _|_
 ·repeat (any_goals (simp only[w58,w53,w517,w520];try (cbv;repeat' first|exact O5|intro β;cbv|apply O4)))
  rcases o with _|⟨oc,ol⟩<;>refine hP [(0,0),(1,0),(2,0),(3,0),(4,0),(5,0),(6,0),(7,0),(8,0),(9,0),(10,0)] _ _ _ _ ?_ rfl ?_ hk<;>(first|(rfl;done)|(refine⟨?_,?_,?_,?_,?_,?_,?_,?_,?_,?_,?_,trivial⟩<;>first|exact⟨rfl,rfl,rfl,rfl⟩|exact rfl|exact aT _))
 ·repeat (any_goals (simp only[w58,w53,w517,w520];try (cbv;repeat' first|exact O5|intro β;cbv|apply O4)))
  rcases o with _|⟨oc,ol⟩<;>refine hP [(0,0),(1,0),(2,0),(3,0),(4,0),(5,0),(6,0),(7,0),(8,0),(9,0),(10,0)] _ _ _ _ ?_ rfl ?_ hk<;>(first|(rfl;done)|(refine⟨?_,?_,?_,?_,?_,?_,?_,?_,?_,?_,?_,trivial⟩<;>first|exact⟨rfl,rfl,rfl,rfl⟩|exact rfl|exact aT _))
 ·repeat (any_goals (simp only[w58,w53,w517,w520];try (cbv;repeat' first|exact O5|intro β;cbv|apply O4)))
  rcases o with _|⟨oc,ol⟩<;>refine hP [(0,0),(1,0),(2,0),(3,0),(4,0),(5,0),(6,0),(7,0),(8,0),(9,0),(10,0)] _ _ _ _ ?_ rfl ?_ hk<;>(first|(rfl;done)|(refine⟨?_,?_,?_,?_,?_,?_,?_,?_,?_,?_,?_,trivial⟩<;>first|exact⟨rfl,rfl,rfl,rfl⟩|exact rfl|exact aT _))
 ·repeat (any_goals (simp only[w58,w53,w517,w520];try (cbv;repeat' first|exact O5|intro β;cbv|apply O4)))
  rcases o with _|⟨oc,ol⟩<;>refine hP [(0,0),(1,0),(2,0),(3,0),(4,0),(5,0),(6,0),(7,0),(8,0),(9,0),(10,0)] _ _ _ _ ?_ rfl ?_ hk<;>(first|(rfl;done)|(refine⟨?_,?_,?_,?_,?_,?_,?_,?_,?_,?_,?_,trivial⟩<;>first|exact⟨rfl,rfl,rfl,rfl⟩|exact rfl|exact aT _))
def rawL:C→List SV
 |.raw _ _ _ l=>l|_=>[]
def E5 (x:RF) (o:LL) (lf:Bool) (z:ZF):RQ:=⟨x.b,x.lb,x.id,x.term,x.vote,0,x.lead,0,0,0,fun k=>(bE (rawL (rfM x (rV x o) lf (.v (.slice none 0 0)) (.v (.slice none 0 0)) (.sl 7 z.n z.b z.o z.l z.c))) k).den⟩
def jkN (x:RF) (o:LL) (V:List Int) (P:MQ) (ro:Int) (ab:Nat) (z:ZF):HProp:=big [.prd (.mp x.vb (.set V) none),.prd (.mp x.pb (.ptrs 410 P) none),BT o,.prd (.h (dL x.wb)),
  .raw true x.ob 398 [.i .i64 ro,.hv 10 (.map (some ab)),.v (.slice none 0 0),.i .u64 0],.prd (.sl z.sp z.n z.b z.o z.c (.ul 3 .i64 z.l z.Z)),.prd (.h (dL ab))]
theorem fX (x:RF) (o:LL) (lf:Bool) (ms ma:SV) (V:List Int) (P:MQ) (g:LGF) (ro:Int) (ab:Nat) (z:ZF) (s:STO):
  big (fI x o lf ms ma V P g ro ab z s)=star (big (aY (E5 x o lf z) ms ma g s)) (jkN x o V P ro ab z):=by
 have e1:∀c1 c2 c3 c4 c5 c6 c7 c8 c9 c10 c11:C,big [c1,c2,c3,c4,c5,c6,c7,c8,c9,c10,c11]=star (big [c1,c5,c9,c10]) (big [c2,c3,c4,c6,c7,c8,c11]):=by intro c1 c2 c3 c4 c5 c6 c7 c8 c9 c10 c11;simp only[big,aO];ac_rfl
 rw[fI,e1];rfl
theorem E7 (x:RF) (o:LL) (lf:Bool) (V:List Int) (P:MQ) (g:LGF) (ro:Int) (ab:Nat) (z:ZF) (s:STO):yT x o lf V P g ro ab z s=fI x o lf (.v (.slice none 0 0)) (.v (.slice none 0 0)) V P g ro ab z s:=rfl
structure Y0 where
 b:Nat
 lb:Nat
 vb:Nat
 pb:Nat
 wb:Nat
 ob:Nat
 ab:Nat
 sb:Nat
 hv:Nat
 sv:Nat
 nn2:Nat
 eb3:Nat
 off2:Nat
 cap2:Nat
 rnb:Nat
 ssb:Nat
 hdb:Nat
 lf:Bool
 sp2:Bool
 o:LL
 P2:MQ
 d0:Int
 d1:Int
 d2:Int
 d3:Int
 d4:Int
 d5:Int
def cR.apv (e:cR):Int:=if e.ap=0 then e.ix else e.ap
def cR.en1 (e:cR):Nat:=1+e.ln
def cR.off1 (e:cR):Int:=e.ix+e.ln+1
def cR.rt2 (e:cR):Int:=EB e.et (rndP (e.z.Z,e.z.l,0,e.et))
def cR.nx2 (e:cR):Int:=nxP (e.z.l,0)
def cR.rowsD (e:cR):HProp:=big [e.V.cel,e.L.cel,e.O.cel,e.X.cel,e.logC]
def cR.W (e:cR) (k:Nat):Value:=(bE (e.cs 1 2 3 4 5 6) k).den
def Y0.rf (e:cR) (y:Y0):RF:=⟨y.b,e.id,e.tm,e.vo,y.lb,e.ms,y.vb,y.pb,y.wb,e.mi,0,e.cq,e.pv,e.ht,e.et,e.rt2,e.nf,e.sd,y.ob,e.nx2⟩
def Y0.g (e:cR) (y:Y0):LGF:=⟨e.off1,e.co,e.apv,e.apv,e.mc,0,false⟩
def Y0.st (e:cR) (y:Y0):STO:=⟨y.sb,.v (.pointer (some ⟨y.hv,0,none⟩)),.v (.pointer (some ⟨y.sv,0,none⟩)),y.nn2,y.eb3,y.off2,y.cap2,e.en1,y.d0,y.d1,y.d2,y.d3,y.d4,y.d5,y.sp2,e.it,e.ix,.oi 306 .i32 none,.bys 5 0 none,entPs e.es⟩
def Y0.ns (e:cR) (y:Y0):NS where
 x:=E5 (y.rf e) y.o y.lf e.z
 ms:=.v (.slice none 0 0)
 ma:=.v (.slice none 0 0)
 g:=y.g e
 s:=y.st e
 h1:=.pointer (some ⟨y.hv,0,none⟩)
 h2:=.pointer (some ⟨y.sv,0,none⟩)
 r:=⟨y.rnb,y.ssb,y.hdb,0,0,e.tm,e.vo,e.co⟩
 sa:=.slice none 0 0
 mr:=emp
 V:=(e.V.n,e.V.l)
 L:=(e.L.n,e.L.l)
 O:=(0,[])
 X:=(0,[])
 a:=some false
 jk:=star (jkN (y.rf e) y.o e.V.l y.P2 (EZ e.ls) y.ab e.z) e.rowsD
structure ok0 (e:cR) (β:Nat→Nat) (y:Y0):Prop where
 rnb:y.rnb=β 0
 sb:y.sb=β 1
 tk:TrkOK e.V.l e.L.l y.P2
 ll:LLOK e.L.l y.o
def P0 (e:cR) (β:Nat→Nat):HProp:=HX (ok0 e β) fun y=>star ((y.ns e).den (β 2)) emp
def fO (e:cR) (nb:Nat):BG:=⟨nb,e.W,e.apv,big [e.zC,e.V.cel,e.L.cel,e.O.cel,e.X.cel,e.logC],P0 e⟩
theorem ac0 {w:World} {A J S R3 CF RW H:HProp} (h:sat w (star (star (star A J) (star S (star R3 (star CF RW)))) (star emp H))):sat w (star (star (star (star A R3) (star CF (star emp (star J RW)))) emp) (star S H)):=by refine aI h ?_;simp only[aO,aH];ac_rfl
theorem bok {e:cR} (he:e.ok) (nb:Nat):BOk (fO e nb):=by
 constructor;refine cK fun u F K _ hK=>?_;refine inS.fr (h1:=[.raw true nb 135 (e.cs 1 2 3 4 5 6++[.bl false,.v (.pointer none),.v (.pointer none),.i .u64 0,.v (.pointer none)]),e.zC,e.V.cel,e.L.cel,e.O.cel,e.X.cel,e.logC]) (G:=emp) (args:=[.ptr 0 nb 0]) rfl ?_ (s68 (s:=e) (en1:=e.en1) (off1:=e.off1) (apv:=e.apv) (rt2:=e.rt2) (nx2:=e.nx2) (am:=e.apv) he rfl rfl rfl rfl rfl rfl ?_ _)
 ·intro w H hs;have h3:=tK (c:=sg0 nb e.W) (A:=big [e.zC,e.V.cel,e.L.cel,e.O.cel,e.X.cel,e.logC]) hs;show sat w (star (star (Cel.den (sg0 nb e.W)) (big [e.zC,e.V.cel,e.L.cel,e.O.cel,e.X.cel,e.logC])) (star emp H));refine aI h3 ?_;rw[aH];ac_rfl
 ·intro b lb vb pb wb ob ab sb hv sv nn2 eb3 off2 cap2 rnb ssb hdb cfb lf sp2 o P2 d0 d1 d2 d3 d4 d5 hT hL hsp;refine⟨_,_,hK (fun k=>[rnb,sb,cfb].getD k 0) trivial,rfl,fun w H hs=>?_⟩;refine tV (c:=SG.c ((fO e nb).sg (fun k=>[rnb,sb,cfb].getD k 0)) 1 e.apv) (A:=P0 e (fun k=>[rnb,sb,cfb].getD k 0)) (j7.2 ⟨⟨b,lb,vb,pb,wb,ob,ab,sb,hv,sv,nn2,eb3,off2,cap2,rnb,ssb,hdb,lf,sp2,o,P2,d0,d1,d2,d3,d4,d5⟩,⟨rfl,rfl,hT,hL⟩,?_⟩);rw[bF,E7,fX] at hs;have e2:∀c1 c2 c3 c4 c5 c6 c7 c8 c9 c10:C,big [c1,c2,c3,c4,c5,c6,c7,c8,c9,c10]=star c1.den (star (big [c2,c3,c4]) (star c5.den (big [c6,c7,c8,c9,c10]))):=by
   intro c1 c2 c3 c4 c5 c6 c7 c8 c9 c10;simp only[big,aO];ac_rfl
  rw[e2] at hs;rw[NS.den,NS.hd,bF];exact ac0 hs
def NS.nd (q:NS):HProp:=star (big (aY q.x q.ms q.ma q.g {q.s with hs:=.v q.h1,sn:=.v q.h2})) (star q.mr q.jk)
structure PW where
 T:Int
 VO:Int
 LD:Int
 CO:Int
 k:Nat
 mf:MG
def mrOk (p:PW) (q:NS):Prop:=match p.k with
 |0=>q.ms=.v (.slice none 0 0)∧q.ma=.v (.slice none 0 0)∧q.mr=emp|1=>∃nn rb off cap,q.ms=.v (.slice (slA nn rb off) 1 cap)∧q.ma=.v (.slice none 0 0)∧q.mr=big [.prd (Pay.sl true nn rb off cap (.sl 176 1 1 [p.mf.f]))]|_=>∃nn rb off cap,q.ma=.v (.slice (slA nn rb off) 1 cap)∧q.ms=.v (.slice none 0 0)∧q.mr=big [.prd (Pay.sl true nn rb off cap (.sl 176 1 1 [p.mf.f]))]
structure okN (e:cR) (p:PW) (q:NS):Prop where
 id:q.x.id=e.id
 T:q.x.tm=p.T
 VO:q.x.vo=p.VO
 st:q.x.st=0
 LD:q.x.ld=p.LD
 tg:q.x.tg=0
 pn:q.x.pn=0
 un:q.x.un=0
 g:q.g=⟨e.off1,p.CO,e.apv,e.apv,e.mc,0,false⟩
 i0:q.s.i0=e.ix
 es:q.s.es=entPs e.es
 n:q.s.n=e.en1
 mr:mrOk p q
structure LT (e:cR) (y:Y0) (q:NS):Prop where
 b:q.x.b=y.b
 sb:q.s.b=y.sb
 r:q.r=⟨y.rnb,y.ssb,y.hdb,0,0,e.tm,e.vo,e.co⟩
 sa:q.sa=.slice none 0 0
 V:q.V=(e.V.n,e.V.l)
 L:q.L=(e.L.n,e.L.l)
 O:q.O=(0,[])
 X:q.X=(0,[])
 a:q.a=some false
structure ok1 (e:cR) (β:Nat→Nat) (p:PW) (q:NS):Prop where
 rb:q.r.b=β 0
 sb:q.s.b=β 1
 nd:okN e p q
 r:q.r.sl=0∧q.r.ss=0∧q.r.ht=e.tm∧q.r.hv=e.vo∧q.r.hc=e.co
 sa:q.sa=.slice none 0 0
 V:q.V=(e.V.n,e.V.l)
 L:q.L=(e.L.n,e.L.l)
 O:q.O=(0,[])
 X:q.X=(0,[])
 a:q.a=some false
def P1 (e:cR) (β:Nat→Nat) (p:PW):HProp:=HX (ok1 e β p) fun q=>star (q.den (β 2)) emp
def E2:SV→List SV
 |.agg l=>l|_=>[]
theorem ac1 {w:World} {A R1 S1 H1 CF J RW H S:HProp} (h:sat w (star (star (star (star A (star R1 (star S1 (star H1 emp)))) (star CF (star emp (star J RW)))) emp) (star S H))):sat w (star (star S (star R1 (star (star A J) emp))) (star (star S1 (star H1 (star CF RW))) H)):=by refine aI h ?_;simp only[aO,aH];ac_rfl
theorem ac2 {w:World} {A R1 S1 H1 CF M J RW H S:HProp} (h:sat w (star (star A (star M J)) (star (star S (star R1 emp)) (star (star S1 (star H1 (star CF RW))) H)))):sat w (star (star (star (star A (star R1 (star S1 (star H1 emp)))) (star CF (star M (star J RW)))) emp) (star S H)):=by refine aI h ?_;simp only[aO,aH];ac_rfl
theorem ac3 {w:World} {S R B H:HProp} (h:sat w (star (star S (star R (star B emp))) H)):sat w (star B (star (star S (star R emp)) H)):=by refine aI h ?_;simp only[aO,aH];ac_rfl
theorem yK {e:cR} {nb:Nat} {β:Nat→Nat} {p:PW} {m:tT} {sx:ByteArray} {n:Nat} {cx:Option (List UInt8)} (hx:jX sx n cx) (hm:m.k=5∨m.k=8)
  (h139:∀(y:Y0),ok0 e β y→∀(mb:Nat) (K':SV→List C→Prop) (F:HProp),(∀(hp:List C) (q:NS),okN e p q→LT e y q→(∀(w:World) (H:HProp),sat w (star (big hp) H)→sat w (star q.nd H))→K' (.v .nilIface) hp)→
   inS Tryz.prog F 139 [.ptr 0 y.b 0,.ptr 11 mb 0] (fI (y.rf e) y.o y.lf (.v (.slice none 0 0)) (.v (.slice none 0 0)) e.V.l y.P2 (y.g e) (EZ e.ls) y.ab e.z (y.st e)++[.prd (.st mb 269 (m.fs n cx))]) K'):
  DOk ⟨(fO e nb).sg β,e.apv,e.apv,fun k=>(bE (E2 (yL m sx)) k).den,P0 e β,fun γ=>P1 e β p,fun γ=>zZ⟩:=by
 constructor;refine cK fun u F K _ hK=>?_;refine inS.hx OP fun y hy=>?_;have hr:=hy.rnb;have hs:=hy.sb;have hc:SG.c ((fO e nb).sg β) 1 e.apv=eP nb e.W 1 1 y.rnb y.sb e.apv (.pointer (some ⟨β 2,0,none⟩)):=by rw[hr,hs];rfl
 refine inS.fr (h1:=[eP nb e.W 1 2 y.rnb y.sb e.apv (.pointer (some ⟨β 2,0,none⟩)),.raw true y.rnb 243 [.ptr 2 y.b 0,.bl false,.v (.pointer (some ⟨y.ssb,0,none⟩)),.v (.pointer (some ⟨y.hdb,0,none⟩)),.v (.slice none 0 0)],.prd (.h (big (fI (y.rf e) y.o y.lf (.v (.slice none 0 0)) (.v (.slice none 0 0)) e.V.l y.P2 (y.g e) (EZ e.ls) y.ab e.z (y.st e))))])
  (G:=star (Cel.den (.raw true y.ssb 166 [.i .u64 0,.i .u64 0]:C)) (star (Cel.den (.prd (.st y.hdb 226 (oN e.tm e.vo e.co)):C)) (star (Cel.den (.prd (.st (β 2) 229 (E3 (e.V.n,e.V.l) (e.L.n,e.L.l) (0,[]) (0,[]) (some false))):C)) e.rowsD))) (args:=[.ptr 0 nb 0,yL m sx]) rfl ?_
  (s71s (m:=m) (sx:=sx) (n:=n) (cx:=cx) (xb:=y.b) (B:=HX (fun q=>okN e p q∧LT e y q) NS.nd) hx hm (fun mb K' F' hk=>?_) ?_ _)
 ·intro w H h0;have h1:=tK (c:=SG.c ((fO e nb).sg β) 1 e.apv) (A:=star ((y.ns e).den (β 2)) emp) h0;rw[NS.den,NS.hd,bF,hc] at h1;have h2:=ac1 (A:=big (aY (E5 (y.rf e) y.o y.lf e.z) (.v (.slice none 0 0)) (.v (.slice none 0 0)) (y.g e) (y.st e))) (R1:=Cel.den (.raw true y.rnb 243 [.ptr 2 y.b 0,.bl false,.v (.pointer (some ⟨y.ssb,0,none⟩)),.v (.pointer (some ⟨y.hdb,0,none⟩)),.v (.slice none 0 0)]:C))
   (S1:=Cel.den (.raw true y.ssb 166 [.i .u64 0,.i .u64 0]:C)) (H1:=Cel.den (.prd (.st y.hdb 226 (oN e.tm e.vo e.co)):C)) (CF:=Cel.den (.prd (.st (β 2) 229 (E3 (e.V.n,e.V.l) (e.L.n,e.L.l) (0,[]) (0,[]) (some false))):C)) (J:=jkN (y.rf e) y.o e.V.l y.P2 (EZ e.ls) y.ab e.z) (RW:=e.rowsD) (S:=Cel.den (eP nb e.W 1 2 y.rnb y.sb e.apv (.pointer (some ⟨β 2,0,none⟩)))) (H:=H) h1
  rw[←fX] at h2;exact h2
 ·refine inS.fr (h1:=fI (y.rf e) y.o y.lf (.v (.slice none 0 0)) (.v (.slice none 0 0)) e.V.l y.P2 (y.g e) (EZ e.ls) y.ab e.z (y.st e)++[.prd (.st mb 269 (m.fs n cx))]) (G:=emp) (args:=[.ptr 0 y.b 0,.ptr 11 mb 0]) rfl ?_ (h139 y hy mb _ _ ?_)
  ·intro w H h0;rw[bF,aH];exact h0
  ·intro hp q hq1 hq2 hq3;refine⟨_,_,hk,rfl,fun w H h0=>?_⟩;rw[aH] at h0;have h3:sat w (star (HX (fun q=>okN e p q∧LT e y q) NS.nd) H):=j7.2 ⟨q,⟨hq1,hq2⟩,hq3 w H h0⟩;show sat w (star (star (HX (fun q=>okN e p q∧LT e y q) NS.nd) emp) H);rw[aO];exact h3
 ·refine⟨_,_,hK (fun _=>0) trivial,rfl,fun w H h0=>?_⟩;refine tV (c:=SG.c ((fO e nb).sg β) 1 e.apv) (A:=P1 e β p) ?_;have h1:=ac3 (S:=Cel.den (eP nb e.W 1 2 y.rnb y.sb e.apv (.pointer (some ⟨β 2,0,none⟩)))) (R:=Cel.den (.raw true y.rnb 243 [.ptr 2 y.b 0,.bl false,.v (.pointer (some ⟨y.ssb,0,none⟩)),.v (.pointer (some ⟨y.hdb,0,none⟩)),.v (.slice none 0 0)]:C)) (B:=HX (fun q=>okN e p q∧LT e y q) NS.nd) h0;obtain⟨q,⟨hq1,hq2⟩,h2⟩:=j7.1 h1;refine j7.2 ⟨{q with jk:=star q.jk e.rowsD},?_,?_⟩
  ·obtain⟨a1,a2,a3,a4,a5,a6,a7,a8,a9⟩:=hq2;obtain⟨b1,b2,b3,b4,b5,b6,b7,b8,b9,b10,b11,b12,b13⟩:=hq1;exact⟨by show q.r.b=_;rw[a3];exact hr,by show q.s.b=_;rw[a2];exact hs,⟨b1,b2,b3,b4,b5,b6,b7,b8,b9,b10,b11,b12,(by unfold mrOk at b13⊢;exact b13)⟩,by show q.r.sl=0∧q.r.ss=0∧q.r.ht=e.tm∧q.r.hv=e.vo∧q.r.hc=e.co;rw[a3];exact⟨rfl,rfl,rfl,rfl,rfl⟩,a4,a5,a6,a7,a8,a9⟩
  ·rw[NS.den,NS.hd,bF,hc];obtain⟨x,ms,ma,g,st,h1',h2',r,sa,mr,V,L,O,X,a,jk⟩:=q;obtain⟨a1,a2,a3,a4,a5,a6,a7,a8,a9⟩:=hq2;dsimp only at a1 a2 a3 a4 a5 a6 a7 a8 a9;subst a3;subst a4;subst a5;subst a6;subst a7;subst a8;subst a9;rw[←a1] at h2;exact ac2 h2
theorem ac4 {w:World} {A J M H:HProp} (h:sat w (star (star (star A J) M) H)):sat w (star (star A (star M J)) H):=by refine aI h ?_;ac_rfl
theorem ac5 {w:World} {A J H:HProp} (h:sat w (star (star A J) H)):sat w (star (star A (star emp J)) H):=by rw[aH];exact h
def mkN (e:cR) (y:Y0) (x:RF) (o:LL) (lf:Bool) (ms ma:SV) (P:MQ) (g:LGF) (ab:Nat) (s:STO) (h1 h2:Value) (mr:HProp):NS where
 x:=E5 x o lf e.z
 ms:=ms
 ma:=ma
 g:=g
 s:=s
 h1:=h1
 h2:=h2
 r:=⟨y.rnb,y.ssb,y.hdb,0,0,e.tm,e.vo,e.co⟩
 sa:=.slice none 0 0
 mr:=mr
 V:=(e.V.n,e.V.l)
 L:=(e.L.n,e.L.l)
 O:=(0,[])
 X:=(0,[])
 a:=some false
 jk:=jkN x o e.V.l P (EZ e.ls) ab e.z
theorem nxP_0 (l:Nat):0≤nxP (l,0)∧nxP (l,0)≤1:=by
 rcases l with _|l
 ·exact⟨Int.le_refl _,by show (0:Int)≤1;omega⟩
 ·exact⟨by show (0:Int)≤arStd .add .i64 0 1;decide,by show arStd .add .i64 0 1≤(1:Int);decide⟩
theorem wW {v:Int} (h:0<v):nz v=some v:=by
 have:(v==0)=false:=by simp;omega
 unfold nz;rw[this]
theorem yU (c:Int):lB 0 (nz c)=c:=by
 unfold nz;rcases h:c==0 with _|_
 ·rfl
 ·have:c=0:=by simpa using h
  rw[this];rfl
end Go.Sx
