import Derived.Test.YtjikgjdicpggkaaGreatX22
set_option autoImplicit true
set_option relaxedAutoImplicit true
set_option linter.all false
set_option maxRecDepth 100000
set_option maxHeartbeats 4000000
namespace Go.Sx
open Go Go.Proofs
def sgD (nb:Nat) (W:Nat→Value) (rh sh ch rnb sb:Nat) (am:Int) (cfb:Nat):C:=.raw true nb 135 [.v (W 0),.v (W 1),.v (W 2),.v (W 3),.v (W 4),.v (W 5),.v (W 6),.v (W 7),.v (W 8),.v (W 9),.v (W 10),.v (W 11),.v (W 12),.v (W 13),.v (W 14),.v (W 15),.v (W 16),.v (W 17),.v (W 18),.v (W 19),
 .v (W 20),.v (W 21),.v (W 22),.v (W 23),.v (W 24),.v (W 25),.bl false,.ptr rh rnb 0,.ptr sh sb 0,.i .u64 am,.ptr ch cfb 0]
def vL (A:Nat→Value):List SV:=[.v (A 0),.v (A 1),.v (A 2),.v (A 3),.v (A 4),.v (A 5),.v (A 6),.v (A 7),.v (A 8),.v (A 9),.v (A 10),.v (A 11),.v (A 12),.v (A 13),.v (A 14),.v (A 15),.v (A 16),.v (A 17),.v (A 18),.v (A 19),.v (A 20),.v (A 21),.v (A 22),.v (A 23),.v (A 24),.v (A 25),.v (A 26),.v (A 27),.v (A 28),.v (A 29),.v (A 30),.v (A 31),.v (A 32)]
def E3 (V L O X:Nat×List Int) (a:Option Bool):List FV:=[.ul 22 .u64 V.1 V.2,.ul 22 .u64 L.1 L.2,.ul 22 .u64 O.1 O.2,.ul 22 .u64 X.1 X.2,.ob 4 a]
theorem s69 {x:RQ} {g:LGF} {s:STO} {r:RN} {h1 h2 m1 m2 sa:Value} {W A:Nat→Value} {nb cfb:Nat} {am:Int} {V L O X:Nat×List Int} {a:Option Bool} {K:SV→List C→Prop} (hst0:0≤x.st) (hst1:x.st≤100)
  (hV:V.1≤4294967296) (hL':L.1≤4294967296) (hO:O.1≤4294967296) (hX':X.1≤4294967296) (hone:∀i,i<33→(A i).oneCell'=true)
  (hQ:∀v9 v10 v11 v12:Value,bK v9→bK v10→bK v11→bK v12→K (K6 (fun i=>.v (A i)) x.st x.ld x.tm x.vo g.co g.ad x.tg v9 v10 v11 v12 (optB a)) (aY x (.v m1) (.v m2) g {s with hs:=.v h1,sn:=.v h2}++r.cs x.b (.v sa)++[sgD nb W 4 2 8 r.b s.b am cfb,.prd (.st cfb 229 (E3 V L O X a))])) (F:HProp):
  inS Tryz.prog F 69 [.ptr 7 nb 0,.agg (vL A)] (aY x (.v m1) (.v m2) g {s with hs:=.v h1,sn:=.v h2}++r.cs x.b (.v sa)++[sgD nb W 4 2 8 r.b s.b am cfb,.prd (.st cfb 229 (E3 V L O X a))]) K:=by
 obtain⟨b,lb,id,tm,vo,st,ld,tg,pn,un,Y⟩:=x;obtain⟨off,co,ai,ad,mx,sz,pz⟩:=g;obtain⟨sb,hs,sn',nn,eb,ro,cap,n,k0,k1,k2,k3,k4,k5,sp,t0,i0,f3,f4,es⟩:=s;obtain⟨rb,ssb,hb,sl,ss,ht,hv,hc⟩:=r;obtain⟨V1,V2⟩:=V;obtain⟨L1,L2⟩:=L;obtain⟨O1,O2⟩:=O;obtain⟨X1,X2⟩:=X;change 0≤st at hst0;change st≤100 at hst1;change V1≤4294967296 at hV;change L1≤4294967296 at hL';change O1≤4294967296 at hO;change X1≤4294967296 at hX';refine aF ⟨false,false⟩ (fun _=>[r93,r94,rE,rC]) (fun _=>(.cons x93 (.cons x94 (.cons rB (.cons rO .nil))))) Tryz.func69 Tryz.ntmps69 rfl rfl ?_;intros;rename_i AR hA _ _ _ _ _ _ _ _ _ hI _ _ _ _ hP;have a0:AR .conv .i64 st 0=st:=by rw[hA];show IntKind.i64.wrap _=_;rw[IntKind.wrap_i64];omega
 cbv;repeat' first|exact O5|intro β;cbv|apply O4
 repeat (first|(refine inl @hI Tryz.func92 Tryz.ntmps92 rfl rfl ?_;cbv;repeat' first|exact O5|intro β;cbv|apply O4)|(refine inl @hI Tryz.func133 Tryz.ntmps133 rfl rfl ?_;cbv;repeat' first|exact O5|intro β;cbv|apply O4))
 repeat (any_goals (simp only[a0];try (cbv;repeat' first|exact O5|intro β;cbv|apply O4)))
 all_goals first|exact hone _ (by decide)|skip
 refine hP [(0,0),(1,0),(2,0),(3,0),(4,0),(5,0),(6,0),(7,0),(8,0)] _ _ _ _ ?_ rfl ?_ (hQ ?A1 ?A2 ?A3 ?A4 ?B1 ?B2 ?B3 ?B4)
 ·rfl
 ·exact(by cbv;repeat' first|exact lg|apply O4|exact rfl|(simp;done))
 all_goals first|exact⟨_,_,_,_,_,rfl⟩|exact⟨0,0,0,0,0,rfl⟩
def yL (m:tT) (s:ByteArray):SV:=match m.arg s with
 |.agg l=>.agg ([.i .i64 4,.i .u64 0,.v (.string ⟨#[]⟩)]++l++[.i .i64 0,.v (.slice none 0 0),.v (.string ⟨#[]⟩),.bl false])|x=>x
theorem s71s {A B:HProp} {nb rnb xb sb:Nat} {m:tT} {sx:ByteArray} {n:Nat} {cx:Option (List UInt8)} {W:Nat→Value} {am:Int} {cf w2 w3 w4:Value} {K:SV→List C→Prop}
  (hx:jX sx n cx) (hm:m.k=5∨m.k=8)
  (hst:∀(mb:Nat) (K':SV→List C→Prop) (F:HProp),K' (.v .nilIface) [.prd (.h B)]→inS Tryz.prog F 139 [.ptr 0 xb 0,.ptr 1 mb 0] [.prd (.h A),.prd (.st mb 269 (m.fs n cx))] K')
  (hQ:K (.agg K4) [eP nb W 1 2 rnb sb am cf,.raw true rnb 243 [.ptr 2 xb 0,.bl false,.v w2,.v w3,.v w4],.prd (.h B)]) (F:HProp):
  inS Tryz.prog F 71 [.ptr 0 nb 0,yL m sx] [eP nb W 1 2 rnb sb am cf,.raw true rnb 243 [.ptr 2 xb 0,.bl false,.v w2,.v w3,.v w4],.prd (.h A)] K:=by
 obtain⟨k,to',fr,tm,lt,ix,cm⟩:=m;change k=5∨k=8 at hm;refine aF ⟨false,false⟩ (fun TX=>[r100 TX,r141,r145,wS,AO]) (fun _=>(.cons x100 (.cons x141 (.cons x145 (.cons xI (.cons zX .nil)))))) Tryz.func71 Tryz.ntmps71 rfl rfl ?_;intros;rename_i hTX _ _ _ _ CM _ _ _ _ _ _ _ hU hI hL _ hN hsat hP;obtain⟨h5,h6⟩:=hx;rw[←hTX] at h5 h6;subst h5;subst h6;have hT:=jX.self hTX sx;have ok:O100 k:=by rcases hm with rfl|rfl<;>exact⟨by omega,by omega⟩
 have okk:DA k:=by rcases hm with rfl|rfl<;>exact⟨by omega⟩
 have e4:decide (k=4)=false:=by rcases hm with rfl|rfl<;>rfl
 have e6:decide (k=6)=false:=by rcases hm with rfl|rfl<;>rfl
 have e9:decide (k=9)=false:=by rcases hm with rfl|rfl<;>rfl
 have d1:CM .eq 4 1=false:=O6;have d2:CM .eq 4 14=false:=O6;have d3:CM .eq 4 2=false:=O6;have d4:CM .eq 4 3=false:=O6;have d5:CM .eq 4 4=true:=O6;cbv;repeat' first|exact O5|intro β;cbv|apply O4|apply hT;done|apply ok;done|apply okk;done
 repeat (any_goals (simp only[d1,d2,d3,d4,d5];try (cbv;repeat' first|exact O5|intro β;cbv|apply O4|apply hT;done|apply ok;done|apply okk;done)))
 refine inl @hI Tryz.func99 Tryz.ntmps99 rfl rfl ?_;cbv;repeat' first|exact O5|intro β;cbv|apply O4|apply hT;done|apply ok;done|apply okk;done
 repeat (any_goals (simp only[e4,e6,e9];try (cbv;repeat' first|exact O5|intro β;cbv|apply O4|apply hT;done|apply ok;done|apply okk;done)))
 rename_i bq x2 x1 x0;have hst2:=fun K' F' u=>hst (bq 6 0) K' F' u;refine aD hN [2,7] (by decide) rfl ?_ ?_ (fun F'=>hst2 _ F' ?_)
 ·rfl
 ·exact⟨rfl,rfl,trivial⟩
 cbv;repeat' first|exact O5|intro β;cbv|apply O4|apply hT;done|apply ok;done|apply okk;done
 repeat (first|(refine inl @hI Tryz.func113 Tryz.ntmps113 rfl rfl ?_;cbv;repeat' first|exact O5|intro β;cbv|apply O4|apply hT;done|apply ok;done|apply okk;done))
 refine hP [(0,0),(1,0),(2,0)] _ _ _ _ ?_ rfl ?_ hQ
 ·rfl
 ·exact(by cbv;repeat' first|exact lg|apply O4|exact rfl|(simp;done))
def gO:SV:=.agg [.i .i64 5,.i .u64 0,.v (.string ⟨#[]⟩),.i .i64 0,.i .u64 0,.i .u64 0,.i .u64 0,.i .u64 0,.i .u64 0,.i .u64 0,.i .u64 0,.i .u64 0,.v (.slice none 0 0),
 .v (.string ⟨#[]⟩),.i .u64 0,.i .u64 0,.v (.slice none 0 0),.v (.slice none 0 0),.v (.slice none 0 0),.v (.slice none 0 0),.bl false,.bl false,.v (.string ⟨#[]⟩),.v (.slice none 0 0),.i .i64 0,.v (.slice none 0 0),.v (.string ⟨#[]⟩),.bl false]
theorem AL {A:HProp} {B:(Nat→Nat)→HProp} {Z:(Nat→Nat)→Nat→Value} {nb rnb sb:Nat} {W:Nat→Value} {am z:Int} {cf:Value} {K:SV→List C→Prop} (hone:∀b i,i<33→(Z b i).oneCell'=true)
  (hst:∀(K':SV→List C→Prop) (F:HProp),(∀b,K' (.agg (vL (Z b))) [eP nb W 1 1 rnb sb z cf,.prd (.h (B b))])→inS Tryz.prog F 101 [.ptr 0 nb 0] [eP nb W 1 1 rnb sb am cf,.prd (.h A)] K')
  (hQ:∀b,K (.agg (vL (Z b))) [eP nb W 1 1 rnb sb z cf,.prd (.h (B b))]) (F:HProp):
  inS Tryz.prog F 71 [.ptr 0 nb 0,gO] [eP nb W 1 1 rnb sb am cf,.prd (.h A)] K:=by
 refine aF ⟨false,false⟩ (fun _=>[]) (fun _=>.nil) Tryz.func71 Tryz.ntmps71 rfl rfl ?_;intros;rename_i CM _ _ _ _ _ _ _ _ _ _ _ hN _ hP;have d1:CM .eq 5 1=false:=O6;have d2:CM .eq 5 14=false:=O6;have d3:CM .eq 5 2=false:=O6;have d4:CM .eq 5 3=false:=O6;have d5:CM .eq 5 4=false:=O6;have d6:CM .eq 5 5=true:=O6;cbv;repeat' first|exact O5|intro β;cbv|apply O4
 repeat (any_goals (simp only[d1,d2,d3,d4,d5,d6];try (cbv;repeat' first|exact O5|intro β;cbv|apply O4)))
 refine aD hN [0,1] (by decide) rfl ?_ ?_ (fun F'=>hst _ F' ?_)
 ·rfl
 ·exact⟨⟨rfl,rfl,rfl,rfl⟩,rfl,trivial⟩
 intro b;have ho:=hone b;cbv;repeat' first|exact O5|intro β;cbv|apply O4
 all_goals first|exact ho _ (by decide)|skip
 refine hP [(0,0),(1,0)] _ _ _ _ ?_ rfl ?_ (hQ b)
 ·rfl
 ·exact(by cbv;repeat' first|exact lg|apply O4|exact rfl|(simp;done))
def vC (C:Nat→Value):List SV:=[.v (C 0),.v (C 1),.v (C 2),.v (C 3),.v (C 4),.v (C 5),.v (C 6),.v (C 7),.v (C 8),.v (C 9),.v (C 10),.v (C 11),.v (C 12),.v (C 13),.v (C 14),.v (C 15),.v (C 16),.v (C 17),.v (C 18),.v (C 19),.v (C 20),.v (C 21),.v (C 22),.v (C 23),.v (C 24),.v (C 25),.v (C 26),.v (C 27)]
structure SG where
 nb:Nat
 rnb:Nat
 sb:Nat
 W:Nat→Value
 cf:Value
def SG.c (s:SG) (h:Nat) (am:Int):C:=eP s.nb s.W h h s.rnb s.sb am s.cf
structure DO where
 s:SG
 am:Int
 z:Int
 C:Nat→Value
 A:HProp
 B:(Nat→Nat)→HProp
 Z:(Nat→Nat)→Nat→Value
def DO.con (d:DO):cJ Pay where
 X:=Unit
 args:=fun _=>[.ptr 0 d.s.nb 0,.agg (vC d.C)]
 pre:=fun _=>[d.s.c 1 d.am,.prd (.h d.A)]
 res:=fun _ β=>.agg (vL (d.Z β))
 ws:=fun _ β=>[.fld 0 29 (.i .u64 d.z),.cel 1 (.prd (.h (d.B β)))]
def DO.mat (d:DO) (args:List SV):SM Pay (d.con.X×List Nat):=match args with
 |[.ptr h _ _,_]=>.rdC h fun c=>match c with
  |.raw _ _ _ cs=>match bE cs 27 with
   |.ptr p _ _=>.ret ((),[h,p])|_=>.fail
  |_=>.fail
 |_=>.fail
structure IS where
 ro:Int
 ld:Int
 t:Int
 v:Int
 c:Int
 ap:Int
 tg:Int
def IS.g (i:IS) (A:Nat→Value) (v9 v10 v11 v12:Value) (au:Bool):SV:=K6 (fun k=>.v (A k)) i.ro i.ld i.t i.v i.c i.ap i.tg v9 v10 v11 v12 au
inductive OSaid (s:SG) (z:Int) (i:IS) (A:Nat→Value) (P:HProp):Prop where
 |mk (h:∀(F:HProp) (K:SV→List C→Prop),(∀β:Nat→Nat,K (i.g A (.slice (slA (β 0) (β 1) (β 2)) (β 3) (β 4)) (.slice (slA (β 5) (β 6) (β 7)) (β 8) (β 9)) (.slice (slA (β 10) (β 11) (β 12)) (β 13) (β 14)) (.slice (slA (β 15) (β 16) (β 17)) (β 18) (β 19)) false) [s.c 1 z,.prd (.h P)])→
   inS Tryz.prog F 69 [.ptr 0 s.nb 0,.agg (vL A)] [s.c 1 z,.prd (.h P)] K)
def oX (s:SG) (z:Int) (i:IS):cJ Pay where
 X:=(Nat→Value)×HProp
 args:=fun(A,P)=>[.ptr 0 s.nb 0,.agg (vL A)]
 pre:=fun(A,P)=>[s.c 1 z,.prd (.h P)]
 obl:=fun(A,P)=>OSaid s z i A P
 res:=fun(A,P) β=>i.g A (.slice (slA (β 0) (β 1) (β 2)) (β 3) (β 4)) (.slice (slA (β 5) (β 6) (β 7)) (β 8) (β 9)) (.slice (slA (β 10) (β 11) (β 12)) (β 13) (β 14)) (.slice (slA (β 15) (β 16) (β 17)) (β 18) (β 19)) false
def xY (s:SG) (z:Int) (i:IS) (args:List SV):SM Pay ((oX s z i).X×List Nat):=match args with
 |[.ptr h _ _,.agg l]=>.rdC h fun c=>match c with
  |.raw _ _ _ cs=>match bE cs 27 with
   |.ptr p _ _=>.rdC p fun c=>match c with
    |.prd (.h P)=>.ret ((fun k=>(bE l k).den,P),[h,p])|_=>.fail
   |_=>.fail
  |_=>.fail
 |_=>.fail
theorem wP (s:SG) (z:Int) (i:IS):(oX s z i).ok Tryz.prog 69:=by refine cK fun x F K ho hK=>?_;obtain⟨A,P⟩:=x;obtain⟨h⟩:=ho;exact h F K fun β=>hK β trivial
theorem x71:cI 71:=⟨_,Tryz.func71,rfl,by decide⟩
theorem x69:cI 69:=⟨_,Tryz.func69,rfl,by decide⟩
structure DOk (d:DO):Prop where
 ok:d.con.ok Tryz.prog 71
def DO.rule (d:DO) (h:DOk d):aN:=⟨71,0,true,d.con.app d.mat,d.con.app_ok h.ok d.mat,fun h=>by cases h⟩
def rSaid (s:SG) (z:Int) (i:IS):aN:=⟨69,0,true,(oX s z i).app (xY s z i),(oX s z i).app_ok (wP s z i) (xY s z i),fun h=>by cases h⟩
theorem s70 {d:DO} {i:IS} {bn bc ba:Nat} {A0:Nat→Value} {K:SV→List C→Prop} (hd:DOk d) (hZ:∀β k,k<33→(d.Z β k).oneCell'=true) (hs:∀β A,(∀k,k<33→(A k).oneCell'=true)→OSaid d.s d.z i A (d.B β))
  (hQ:∀(β:Nat→Nat) (v9 v10 v11 v12:Value),bK v9→bK v10→bK v11→bK v12→K (.tup []) [.raw true bn 130 [.ptr 3 d.s.nb 0],.raw true bc 44 (vC d.C),.raw true ba 48 [.v (d.Z β 0),.v (d.Z β 1),.i .i64 i.ro,.i .u64 i.ld,.i .u64 i.t,.i .u64 i.v,.i .u64 i.c,.i .u64 i.ap,.i .u64 i.tg,.v v9,.v v10,.v v11,.v v12,.bl false,
   .v (d.Z β 14),.v (d.Z β 15),.v (d.Z β 16),.v (d.Z β 17),.v (d.Z β 18),.v (d.Z β 19),.v (d.Z β 20),.v (d.Z β 21),.v (d.Z β 22),.v (d.Z β 23),.v (d.Z β 24),.v (d.Z β 25),.v (d.Z β 26),.v (d.Z β 27),.v (d.Z β 28),.v (d.Z β 29),.v (d.Z β 30),.v (d.Z β 31),.v (d.Z β 32)],d.s.c 4 d.z,.prd (.h (d.B β))]) (F:HProp):
  inS Tryz.prog F 70 [.ptr 0 bn 0,.ptr 1 bc 0,.ptr 2 ba 0] [.raw true bn 130 [.ptr 3 d.s.nb 0],.raw true bc 44 (vC d.C),.raw true ba 48 (vL A0),d.s.c 4 d.am,.prd (.h d.A)] K:=by
 refine aF ⟨false,false⟩ (fun TX=>[d.rule hd,rSaid d.s d.z i]) (fun TX=>.cons x71 (.cons x69 .nil)) Tryz.func70 Tryz.ntmps70 rfl rfl ?_;intros;rename_i hP;have hs2:∀β,OSaid d.s d.z i (fun k=>(bE (vL (d.Z β)) k).den) (d.B β):=fun β=>hs β _ fun k hk=>(match k,hk with|0,_=>hZ β 0 (by decide)|1,_=>hZ β 1 (by decide)|2,_=>hZ β 2 (by decide)|3,_=>hZ β 3 (by decide)|4,_=>hZ β 4 (by decide)|5,_=>hZ β 5 (by decide)|6,_=>hZ β 6 (by decide)|7,_=>hZ β 7 (by decide)|8,_=>hZ β 8 (by decide)|9,_=>hZ β 9 (by decide)|10,_=>hZ β 10 (by decide)|11,_=>hZ β 11 (by decide)|12,_=>hZ β 12 (by decide)|13,_=>hZ β 13 (by decide)|14,_=>hZ β 14 (by decide)|15,_=>hZ β 15 (by decide)|16,_=>hZ β 16 (by decide)|17,_=>hZ β 17 (by decide)|18,_=>hZ β 18 (by decide)|19,_=>hZ β 19 (by decide)|20,_=>hZ β 20 (by decide)|21,_=>hZ β 21 (by decide)|22,_=>hZ β 22 (by decide)|23,_=>hZ β 23 (by decide)|24,_=>hZ β 24 (by decide)|25,_=>hZ β 25 (by decide)|26,_=>hZ β 26 (by decide)|27,_=>hZ β 27 (by decide)|28,_=>hZ β 28 (by decide)|29,_=>hZ β 29 (by decide)|30,_=>hZ β 30 (by decide)|31,_=>hZ β 31 (by decide)|32,_=>hZ β 32 (by decide)|n+33,h=>absurd h (by omega));obtain⟨⟨nb,rnb,sb,W,cf⟩,am,z,C,A,B,Z⟩:=d;cbv;repeat' first|exact O5|intro β;cbv|apply O4
 all_goals first|exact hs2 _|exact hZ _ _ (by decide)|skip
 refine hP [(0,0),(1,0),(2,0),(3,0),(4,0)] _ _ _ _ ?_ rfl ?_ (hQ (β 3) ?A1 ?A2 ?A3 ?A4 ?o1 ?o2 ?o3 ?o4)
 ·rfl
 ·exact(by cbv;repeat' first|exact lg|apply O4|exact rfl|(simp;done))
 all_goals first|rfl|exact⟨_,_,_,_,_,rfl⟩
def sg0 (nb:Nat) (W:Nat→Value):C:=.raw true nb 135 [.v (W 0),.v (W 1),.v (W 2),.v (W 3),.v (W 4),.v (W 5),.v (W 6),.v (W 7),.v (W 8),.v (W 9),.v (W 10),.v (W 11),.v (W 12),.v (W 13),.v (W 14),.v (W 15),.v (W 16),.v (W 17),.v (W 18),.v (W 19),
 .v (W 20),.v (W 21),.v (W 22),.v (W 23),.v (W 24),.v (W 25),.bl false,.v (.pointer none),.v (.pointer none),.i .u64 0,.v (.pointer none)]
structure BG where
 nb:Nat
 W:Nat→Value
 am:Int
 A:HProp
 P:(Nat→Nat)→HProp
def BG.sg (d:BG) (β:Nat→Nat):SG:=⟨d.nb,β 0,β 1,d.W,.pointer (some ⟨β 2,0,none⟩)⟩
def BG.con (d:BG):cJ Pay where
 X:=Unit
 args:=fun _=>[.ptr 0 d.nb 0]
 pre:=fun _=>[sg0 d.nb d.W,.prd (.h d.A)]
 res:=fun _ _=>.bl false
 ws:=fun _ β=>[.cel 0 ((d.sg β).c 1 d.am),.cel 1 (.prd (.h (d.P β)))]
def BG.mat (d:BG) (q:Nat) (args:List SV):SM Pay (d.con.X×List Nat):=match args with
 |[.ptr h _ _]=>.ret ((),[h,q])|_=>.fail
theorem x68:cI 68:=⟨_,Tryz.func68,rfl,by decide⟩
structure BOk (d:BG):Prop where
 ok:d.con.ok Tryz.prog 68
def BG.rule (d:BG) (q:Nat) (h:BOk d):aN:=⟨68,0,true,d.con.app (d.mat q),d.con.app_ok h.ok (d.mat q),fun h=>by cases h⟩
theorem s67 {d:BG} {bn:Nat} {K:SV→List C→Prop} (hd:BOk d)
  (hQ:∀β:Nat→Nat,K (.tup []) [.raw true bn 130 [.ptr 1 d.nb 0],(d.sg β).c 2 d.am,.prd (.h (d.P β))]) (F:HProp):
  inS Tryz.prog F 67 [.ptr 0 bn 0] [.raw true bn 130 [.ptr 1 d.nb 0],sg0 d.nb d.W,.prd (.h d.A)] K:=by
 refine aF ⟨false,false⟩ (fun TX=>[d.rule 2 hd]) (fun TX=>.cons x68 .nil) Tryz.func67 Tryz.ntmps67 rfl rfl ?_;intros;rename_i hP;obtain⟨nb,W,am,A,P⟩:=d;cbv;repeat' first|exact O5|intro β;cbv|apply O4
 refine hP [(0,0),(1,0),(2,0)] _ _ _ _ ?_ rfl ?_ (hQ (β 2))
 ·rfl
 ·exact(by cbv;repeat' first|exact lg|apply O4|exact rfl|(simp;done))
abbrev NN:=Nat→Nat
theorem bK.one {v:Value} (h:bK v):v.oneCell'=true:=by obtain⟨_,_,_,_,_,rfl⟩:=h;rfl
structure ND where
 W:Nat→Value
 am:Int
 A:HProp
 P:Nat→NN→HProp
 i0:IS
 z1:Int
 C1:Nat→Value
 B1:Nat→NN→NN→HProp
 Z1:Nat→NN→NN→Nat→Value
 i1:IS
 z2:Int
 C2:Nat→Value
 B2:Nat→NN→NN→NN→HProp
 Z2:Nat→NN→NN→NN→Nat→Value
 i2:IS
def ND.b (d:ND) (nb:Nat):BG:=⟨nb,d.W,d.am,d.A,d.P nb⟩
def ND.s (d:ND) (nb:Nat) (β:NN):SG:=(d.b nb).sg β
def ND.d1 (d:ND) (nb:Nat) (β:NN):DO:=⟨d.s nb β,d.am,d.z1,d.C1,d.P nb β,d.B1 nb β,d.Z1 nb β⟩
def ND.d2 (d:ND) (nb:Nat) (β γ:NN):DO:=⟨d.s nb β,d.z1,d.z2,d.C2,d.B1 nb β γ,d.B2 nb β γ,d.Z2 nb β γ⟩
structure ND.ok (d:ND):Prop where
 b:∀nb,BOk (d.b nb)
 s0:∀nb β A,(∀k,k<33→(A k).oneCell'=true)→OSaid (d.s nb β) d.am d.i0 A (d.P nb β)
 c1:∀nb β,DOk (d.d1 nb β)
 oC1:∀k,k<28→(d.C1 k).oneCell'=true
 oC2:∀k,k<28→(d.C2 k).oneCell'=true
 o1:∀nb β γ k,k<33→(d.Z1 nb β γ k).oneCell'=true
 s1:∀nb β γ A,(∀k,k<33→(A k).oneCell'=true)→OSaid (d.s nb β) d.z1 d.i1 A (d.B1 nb β γ)
 c2:∀nb β γ,DOk (d.d2 nb β γ)
 o2:∀nb β γ δ k,k<33→(d.Z2 nb β γ δ k).oneCell'=true
 s2:∀nb β γ δ A,(∀k,k<33→(A k).oneCell'=true)→OSaid (d.s nb β) d.z2 d.i2 A (d.B2 nb β γ δ)
def sdF (Z:Nat→Value) (i:IS) (v9 v10 v11 v12:Value):List FV:=[.sc (Z 0),.sc (Z 1),.sc (.int .i64 i.ro),.sc (.int .u64 i.ld),.sc (.int .u64 i.t),.sc (.int .u64 i.v),.sc (.int .u64 i.c),.sc (.int .u64 i.ap),.sc (.int .u64 i.tg),.sc v9,.sc v10,.sc v11,.sc v12,.sc (.bool false),
 .sc (Z 14),.sc (Z 15),.sc (Z 16),.sc (Z 17),.sc (Z 18),.sc (Z 19),.sc (Z 20),.sc (Z 21),.sc (Z 22),.sc (Z 23),.sc (Z 24),.sc (Z 25),.sc (Z 26),.sc (Z 27),.sc (Z 28),.sc (Z 29),.sc (Z 30),.sc (Z 31),.sc (Z 32)]
def sdL (Z:Nat→Value) (i:IS) (v9 v10 v11 v12:Value):List SV:=[.v (Z 0),.v (Z 1),.i .i64 i.ro,.i .u64 i.ld,.i .u64 i.t,.i .u64 i.v,.i .u64 i.c,.i .u64 i.ap,.i .u64 i.tg,.v v9,.v v10,.v v11,.v v12,.bl false,
   .v (Z 14),.v (Z 15),.v (Z 16),.v (Z 17),.v (Z 18),.v (Z 19),.v (Z 20),.v (Z 21),.v (Z 22),.v (Z 23),.v (Z 24),.v (Z 25),.v (Z 26),.v (Z 27),.v (Z 28),.v (Z 29),.v (Z 30),.v (Z 31),.v (Z 32)]
def zZ:Nat→Value:=fun k=>(bE K4 k).den
theorem s42 {d:ND} {lb:Nat} {K:SV→List C→Prop} (hd:d.ok)
  (hQ:∀(nb:Nat) (β γ δ:NN) (a9 a10 a11 a12 b9 b10 b11 b12 e9 e10 e11 e12:Value) (n2 b2 o2 c2:Nat),(bK a9∧bK a10∧bK a11∧bK a12∧bK b9∧bK b10∧bK b11∧bK b12∧bK e9∧bK e10∧bK e11∧bK e12)→K (.sl 2 n2 b2 o2 3 c2) [.prd (.h (d.B2 nb β γ δ)),.raw true lb 44 (vC d.C1++vC d.C2),.prd (.sl true n2 b2 o2 c2 (.sl 48 33 3 (sdF zZ d.i0 a9 a10 a11 a12++(sdF (d.Z1 nb β γ) d.i1 b9 b10 b11 b12++sdF (d.Z2 nb β γ δ) d.i2 e9 e10 e11 e12))))]) (F:HProp):
  inS Tryz.prog F 42 [.agg [.v (d.W 0),.v (d.W 1),.v (d.W 2),.v (d.W 3),.v (d.W 4),.v (d.W 5),.v (d.W 6),.v (d.W 7),.v (d.W 8),.v (d.W 9),.v (d.W 10),.v (d.W 11),.v (d.W 12),.v (d.W 13),.v (d.W 14),.v (d.W 15),.v (d.W 16),.v (d.W 17),.v (d.W 18),.v (d.W 19),.v (d.W 20),.v (d.W 21),.v (d.W 22),.v (d.W 23),.v (d.W 24),.v (d.W 25)],
   .hv 1 (.slice (some ⟨lb,0,none⟩) 2 2)] [.prd (.h d.A),.raw true lb 44 (vC d.C1++vC d.C2)] K:=by
 obtain⟨W,am,A,P,i0,z1,C1,B1,Z1,i1,z2,C2,B2,Z2,i2⟩:=d;have hz0:∀k,k<33→(zZ k).oneCell'=true:=by decide
 refine aF ⟨false,false⟩ (fun _=>[]) (fun _=>.nil) Tryz.func42 Tryz.ntmps42 rfl rfl ?_;intros;rename_i jf hjf _ _ _ _ _ _ _ _ _ _ _ _ na hna AR hA CM hC _ _ _ _ _ _ hU hI hL _ hN hsat hP;have y0:CM .le (Int.ofNat (na 0 1)) 4294967296=true:=by rw[hC,hna];rfl
 have y1:CM .le (Int.ofNat (na 1 1)) 4294967296=true:=by rw[hC,hna];rfl
 have y2:CM .le (Int.ofNat (na 2 1)) 4294967296=true:=by rw[hC,hna];rfl
 have n0:na 0 1=1:=by rw[hna]
 have n1:na 1 1=2:=by rw[hna]
 have n2:na 2 1=3:=by rw[hna]
 have ejf:∀l,jf [] l=l:=by intro l;rw[hjf];rfl
 have l0:CM .lt 0 2=true:=O6;have l1:CM .lt 1 2=true:=O6;have l2:CM .lt 2 2=false:=O6;have m0:CM .lt 0 (Int.ofNat 2)=true:=O6;have m1:CM .lt 1 (Int.ofNat 2)=true:=O6;have m2:CM .lt 2 (Int.ofNat 2)=false:=O6;have p0:CM .le 0 0=true:=O6;have p1:CM .le 0 1=true:=O6;have u1:AR .add .i64 0 1=1:=O7;have u2:AR .add .i64 1 1=2:=O7;cbv;repeat' first|exact O5|intro β;cbv|apply O4|apply y0;done|apply y1;done|apply y2;done
 rename_i q1 q0;refine aD hN [4,3,0] (by decide) rfl ?_ ?_ (fun F1=>N9 (Q:=fun hp=>∃b:NN,hp=[.raw true (β 0) 130 [.ptr 1 (q0 0) 0],SG.c ⟨q0 0,b 0,b 1,W,.pointer (some ⟨b 2,0,none⟩)⟩ 2 am,.prd (.h (P (q0 0) b))]) (fun K' F h=>s67 (d:=⟨q0 0,W,am,A,P (q0 0)⟩) (bn:=β 0) (hd.b (q0 0)) (fun b=>h _ ⟨b,rfl⟩) F) (fun hp hq=>?_) F1)
 ·rfl
 ·exact⟨⟨rfl,rfl,rfl,rfl⟩,⟨rfl,rfl,rfl,rfl⟩,rfl,trivial⟩
 obtain⟨b0,rfl⟩:=hq;cbv;repeat' first|exact O5|intro β;cbv|apply O4|apply y0;done|apply y1;done|apply y2;done
 obtain⟨hs0⟩:=hd.s0 (q0 0) b0 zZ hz0;refine aD hN [3,0] (by decide) rfl ?_ ?_ (fun F2=>hs0 F2 _ fun g0=>?_)
 ·rfl
 ·exact⟨⟨rfl,rfl,rfl,rfl⟩,rfl,trivial⟩
 cbv;repeat' first|exact O5|intro β;cbv|apply O4|apply y0;done|apply y1;done|apply y2;done
 refine hU 3 (by decide+kernel) ?_;cbv;repeat' first|exact O5|intro β;cbv|apply O4|apply y0;done|apply y1;done|apply y2;done
 repeat (any_goals (simp only[n0,n1,n2,ejf,l0,l1,l2,m0,m1,m2,p0,p1,u1,u2];try (cbv;repeat' first|exact O5|intro β;cbv|apply O4|apply y0;done|apply y1;done|apply y2;done)))
 all_goals first|exact hd.oC1 _ (by decide)|exact hd.oC2 _ (by decide)|skip
 rename_i r5 r4 r3 r2 r1 r0;refine aD hN [4,9,10,3,0] (by decide) rfl ?_ ?_ (fun F3=>DP (Q:=fun hp=>∃(b:NN) (v9 v10 v11 v12:Value),bK v9∧bK v10∧bK v11∧bK v12∧hp=[.raw true (r5 0) 130 [.ptr 3 (q0 0) 0],.raw true (r0 0) 44 (vC C1),.raw true (β 0) 48 (sdL (Z1 (q0 0) b0 b) i1 v9 v10 v11 v12),(SG.mk (q0 0) (b0 0) (b0 1) W (.pointer (some ⟨b0 2,0,none⟩))).c 4 z1,.prd (.h (B1 (q0 0) b0 b))]) (fun K' F h=>s70 (d:=ND.d1 ⟨W,am,A,P,i0,z1,C1,B1,Z1,i1,z2,C2,B2,Z2,i2⟩ (q0 0) b0) (i:=i1) (A0:=zZ) (bn:=r5 0) (bc:=r0 0) (ba:=β 0) (hd.c1 ..) (fun b k hk=>hd.o1 _ _ b k hk) (fun b A hA=>hd.s1 _ _ b A hA) (fun b v9 v10 v11 v12 g9 g10 g11 g12=>h _ ⟨b,v9,v10,v11,v12,g9,g10,g11,g12,rfl⟩) F) (fun hp hq=>?_) F3)
 ·rfl
 ·exact⟨⟨rfl,rfl,rfl,rfl⟩,⟨rfl,rfl,rfl,rfl⟩,⟨rfl,rfl,rfl,rfl⟩,⟨rfl,rfl,rfl,rfl⟩,rfl,trivial⟩
 obtain⟨b1,a91,a101,a111,a121,e91,e101,e111,e121,rfl⟩:=hq;cbv;repeat' first|exact O5|intro β;cbv|apply O4|apply y0;done|apply y1;done|apply y2;done
 repeat (any_goals (simp only[n0,n1,n2,ejf,l0,l1,l2,m0,m1,m2,p0,p1,u1,u2];try (cbv;repeat' first|exact O5|intro β;cbv|apply O4|apply y0;done|apply y1;done|apply y2;done)))
 all_goals first|exact hd.oC1 _ (by decide)|exact hd.oC2 _ (by decide)|exact e91.one|exact e101.one|exact e111.one|exact e121.one|exact hd.o1 _ _ _ _ (by decide)|skip
 rename_i s3 s2 s1 s0;refine aD hN [4,13,14,3,0] (by decide) rfl ?_ ?_ (fun F5=>DP (Q:=fun hp=>∃(b:NN) (v9 v10 v11 v12:Value),bK v9∧bK v10∧bK v11∧bK v12∧hp=[.raw true (r5 0) 130 [.ptr 3 (q0 0) 0],.raw true (s0 0) 44 (vC C2),.raw true (β 0) 48 (sdL (Z2 (q0 0) b0 b1 b) i2 v9 v10 v11 v12),(SG.mk (q0 0) (b0 0) (b0 1) W (.pointer (some ⟨b0 2,0,none⟩))).c 4 z2,.prd (.h (B2 (q0 0) b0 b1 b))]) (fun K' F h=>s70 (d:=ND.d2 ⟨W,am,A,P,i0,z1,C1,B1,Z1,i1,z2,C2,B2,Z2,i2⟩ (q0 0) b0 b1) (i:=i2) (A0:=zZ) (bn:=r5 0) (bc:=s0 0) (ba:=β 0) (hd.c2 ..) (fun b k hk=>hd.o2 _ _ _ b k hk) (fun b A hA=>hd.s2 _ _ _ b A hA) (fun b v9 v10 v11 v12 g9 g10 g11 g12=>h _ ⟨b,v9,v10,v11,v12,g9,g10,g11,g12,rfl⟩) F) (fun hp hq=>?_) F5)
 ·rfl
 ·exact⟨⟨rfl,rfl,rfl,rfl⟩,⟨rfl,rfl,rfl,rfl⟩,⟨rfl,rfl,rfl,rfl⟩,⟨rfl,rfl,rfl,rfl⟩,rfl,trivial⟩
 obtain⟨b2,a92,a102,a112,a122,e92,e102,e112,e122,rfl⟩:=hq;cbv;repeat' first|exact O5|intro β;cbv|apply O4|apply y0;done|apply y1;done|apply y2;done
 repeat (any_goals (simp only[n0,n1,n2,ejf,l0,l1,l2,m0,m1,m2,p0,p1,u1,u2];try (cbv;repeat' first|exact O5|intro β;cbv|apply O4|apply y0;done|apply y1;done|apply y2;done)))
 all_goals first|exact hd.oC1 _ (by decide)|exact hd.oC2 _ (by decide)|exact e92.one|exact e102.one|exact e112.one|exact e122.one|exact hd.o2 _ _ _ _ _ (by decide)|skip
 refine hP [(0,0),(1,0),(16,0)] _ _ _ _ ?_ rfl ?_ (hQ (q0 0) b0 b1 b2 (.slice (slA (g0 0) (g0 1) (g0 2)) (g0 3) (g0 4)) (.slice (slA (g0 5) (g0 6) (g0 7)) (g0 8) (g0 9)) (.slice (slA (g0 10) (g0 11) (g0 12)) (g0 13) (g0 14)) (.slice (slA (g0 15) (g0 16) (g0 17)) (g0 18) (g0 19)) a91 a101 a111 a121 a92 a102 a112 a122 (β 0) (β 1) (β 2) (β 3) ⟨⟨_,_,_,_,_,rfl⟩,⟨_,_,_,_,_,rfl⟩,⟨_,_,_,_,_,rfl⟩,⟨_,_,_,_,_,rfl⟩,e91,e101,e111,e121,e92,e102,e112,e122⟩)
 ·rfl
 ·(cbv;repeat' (first|(with_reducible apply And.intro)|(with_reducible exact trivial)|(with_reducible exact rfl)|exact aT _|exact rfl|(rw[hjf];exact rfl)))
def HX {Y:Type} (p:Y→Prop) (f:Y→HProp):HProp:=exi fun y=>star (pure' (p y)) (f y)
theorem j7 {Y:Type} {p:Y→Prop} {f:Y→HProp} {w:World} {B:HProp}:sat w (star (HX p f) B)↔∃y,p y∧sat w (star (f y) B):=by
 unfold HX;rw[aL];constructor
 ·rintro⟨y,h⟩;rw[aA] at h;exact⟨y,aB.1 h⟩
 ·rintro⟨y,h⟩;refine⟨y,?_⟩;rw[aA];exact aB.2 h
theorem inS.fr {P:Program} {F:HProp} {n:FuncId} {args args':List SV} {h0 h1:List C} {G:HProp} {K:SV→List C→Prop} (ha:SV.dens args'=SV.dens args) (he:∀(w:World) (H:HProp),sat w (star (big h0) H)→sat w (star (big h1) (star G H)))
  (h:inS P (star G F) n args h1 fun v hp=>∃v' hp',K v' hp'∧v'.den=v.den∧∀(w:World) (H:HProp),sat w (star (big hp) (star G H))→sat w (star (big hp') H)):inS P F n args' h0 K:=
 ⟨h.1,fun w hs=>by
  rw[ha]
  exact(h.2 w (he w F hs)).mono fun e w' hR=>hR.imp id fun⟨v,hp,⟨v',hp',k,e1,f⟩,h2,h3⟩=>⟨v',hp',k,by rw[e1];exact h2,f w' F h3⟩⟩
theorem inS.hx {P:Program} {Y:Type} {p:Y→Prop} {f:Y→HProp} {F:HProp} {n:FuncId} {args:List SV} {c:C} {K:SV→List C→Prop} (hF:tC P n)
  (h:∀y,p y→inS P F n args [c,.prd (.h (f y))] K):inS P F n args [c,.prd (.h (HX p f))] K:=
 ⟨hF,fun w hs=>by
  have h1:sat w (star (HX p f) (star c.den F)):=aI (A:=star (star c.den (star (HX p f) emp)) F) hs (by rw[aO];ac_rfl);obtain⟨y,hy,h2⟩:=j7.1 h1;refine(h y hy).2 w ?_;show sat w (star (star c.den (star (f y) emp)) F)
  exact aI h2 (by rw[aO];ac_rfl)⟩
structure NS where
 x:RQ
 ms:SV
 ma:SV
 g:LGF
 s:STO
 h1:Value
 h2:Value
 r:RN
 sa:Value
 mr:HProp
 V:Nat×List Int
 L:Nat×List Int
 O:Nat×List Int
 X:Nat×List Int
 a:Option Bool
 jk:HProp
def NS.hd (q:NS):List C:=aY q.x q.ms q.ma q.g {q.s with hs:=.v q.h1,sn:=.v q.h2}++q.r.cs q.x.b (.v q.sa)
def NS.cf (q:NS) (cfb:Nat):C:=.prd (.st cfb 229 (E3 q.V q.L q.O q.X q.a))
def NS.den (q:NS) (cfb:Nat):HProp:=star (big q.hd) (star ((q.cf cfb).den) (star q.mr q.jk))
structure NS.fits (q:NS) (s:SG) (i:IS):Prop where
 rb:q.r.b=s.rnb
 sb:q.s.b=s.sb
 ms:∃v,q.ms=.v v
 ma:∃v,q.ma=.v v
 ro:q.x.st=i.ro
 ro0:0≤i.ro
 ro1:i.ro≤100
 ld:q.x.ld=i.ld
 tm:q.x.tm=i.t
 vo:q.x.vo=i.v
 co:q.g.co=i.c
 ad:q.g.ad=i.ap
 tg:q.x.tg=i.tg
 V:q.V.1≤4294967296
 L:q.L.1≤4294967296
 O:q.O.1≤4294967296
 X:q.X.1≤4294967296
 au:optB q.a=false
theorem NJ:tC Tryz.prog 69:=⟨_,rfl,by decide+kernel,by decide⟩
theorem OP:tC Tryz.prog 71:=⟨_,rfl,by decide+kernel,by decide⟩
theorem kJ:tC Tryz.prog 101:=⟨_,rfl,by decide+kernel,by decide⟩
theorem tK {w:World} {c:C} {A F:HProp} (h:sat w (star (big [c,.prd (.h A)]) F)):sat w (star A (star c.den F)):=
 aI (A:=star (star c.den (star A emp)) F) h (by rw[aO];ac_rfl)
theorem tV {w:World} {c:C} {A F:HProp} (h:sat w (star A (star c.den F))):sat w (star (big [c,.prd (.h A)]) F):=by show sat w (star (star c.den (star A emp)) F);exact aI h (by rw[aO];ac_rfl)
theorem vH {Y:Type} {f:Y→NS} {p:Y→Prop} {s:SG} {z:Int} {i:IS} {A:Nat→Value} {cfb:Nat} {G:HProp} (hcf:s.cf=.pointer (some ⟨cfb,0,none⟩)) (hone:∀k,k<33→(A k).oneCell'=true)
  (h:∀y,p y→(f y).fits s i):OSaid s z i A (HX p fun y=>star ((f y).den cfb) G):=by
 obtain⟨nb,rnb,sb,W,cf⟩:=s;change cf=.pointer (some ⟨cfb,0,none⟩) at hcf;subst hcf;constructor;intro F K hK;refine inS.hx NJ fun y hy=>?_;have hq:=h y hy;generalize hfy:f y=q at hq;obtain⟨x,ms,ma,g,st,h1,h2,r,sa,mr,V,L,O,X,a,jk⟩:=q;obtain⟨e1,e2,⟨m1,e3⟩,⟨m2,e4⟩,e5,e6,e7,e8,e9,e10,e11,e12,e13,e14,e15,e16,e17,e18⟩:=hq;obtain⟨ro,ld,t,v,c,ap,tg⟩:=i;dsimp only at e1 e2 e3 e4 e5 e6 e7 e8 e9 e10 e11 e12 e13 e14 e15 e16 e17 e18;subst e1;subst e2;subst e3;subst e4;subst e5;subst e8;subst e9;subst e10;subst e11;subst e12;subst e13;refine inS.fr (h1:=aY x (.v m1) (.v m2) g {st with hs:=.v h1,sn:=.v h2}++r.cs x.b (.v sa)++[sgD nb W 4 2 8 r.b st.b z cfb,.prd (.st cfb 229 (E3 V L O X a))]) (G:=star mr (star jk G)) (args:=[.ptr 7 nb 0,.agg (vL A)]) rfl ?_ (s69 e6 e7 e14 e15 e16 e17 hone ?_ _)
 ·intro w H hs;rw[bF];have h3:=tK hs;show sat w (star (star (big (aY x (.v m1) (.v m2) g {st with hs:=.v h1,sn:=.v h2}++r.cs x.b (.v sa))) (star (Cel.den (SG.c ⟨nb,r.b,st.b,W,.pointer (some ⟨cfb,0,none⟩)⟩ 1 z)) (star ((Cel.prd (Pay.st cfb 229 (E3 V L O X a))).den) emp))) (star (star mr (star jk G)) H));refine aI (A:=star (star (star (big (aY x (.v m1) (.v m2) g {st with hs:=.v h1,sn:=.v h2}++r.cs x.b (.v sa))) (star ((Cel.prd (Pay.st cfb 229 (E3 V L O X a))).den) (star mr jk))) G) (star (Cel.den (SG.c ⟨nb,r.b,st.b,W,.pointer (some ⟨cfb,0,none⟩)⟩ 1 z)) H)) h3 ?_;rw[aO];ac_rfl
 ·rintro v9 v10 v11 v12 ⟨b0,b1,b2,b3,b4,rfl⟩ ⟨b5,b6,b7,b8,b9,rfl⟩ ⟨b10,b11,b12,b13,b14,rfl⟩ ⟨b15,b16,b17,b18,b19,rfl⟩;refine⟨_,_,hK (fun k=>[b0,b1,b2,b3,b4,b5,b6,b7,b8,b9,b10,b11,b12,b13,b14,b15,b16,b17,b18,b19].getD k 0),?_,?_⟩
  ·rw[e18];rfl
  ·intro w H hs;rw[bF] at hs;refine tV (j7.2 ⟨y,hy,?_⟩);rw[hfy];show sat w (star (star (star (big (aY x (.v m1) (.v m2) g {st with hs:=.v h1,sn:=.v h2}++r.cs x.b (.v sa))) (star ((Cel.prd (Pay.st cfb 229 (E3 V L O X a))).den) (star mr jk))) G) (star (Cel.den (SG.c ⟨nb,r.b,st.b,W,.pointer (some ⟨cfb,0,none⟩)⟩ 1 z)) H));refine aI (A:=star (star (big (aY x (.v m1) (.v m2) g {st with hs:=.v h1,sn:=.v h2}++r.cs x.b (.v sa))) (star (Cel.den (SG.c ⟨nb,r.b,st.b,W,.pointer (some ⟨cfb,0,none⟩)⟩ 1 z)) (star ((Cel.prd (Pay.st cfb 229 (E3 V L O X a))).den) emp))) (star (star mr (star jk G)) H)) hs ?_;rw[aO];ac_rfl
end Go.Sx
