import Derived.Test.YtjikgjdicpggkaaGreatX17
set_option autoImplicit true
set_option relaxedAutoImplicit true
set_option linter.all false
set_option maxRecDepth 100000
set_option maxHeartbeats 4000000
namespace Go.Sx
open Go Go.Proofs
def yJ:cJ Pay where
 X:=Unit
 args:=fun _=>[.v (.pointer none)]
 pre:=fun _=>[]
 res:=fun _ _=>(.lit .u64 0)
theorem k121n:yJ.ok Tryz.prog 121:=by
 refine aJ ⟨false,false⟩ (fun _=>[]) (fun _=>.nil) _ Tryz.func121 Tryz.ntmps121 rfl rfl ?_;intros;rename_i x _ _ _ _ hP;cases x;cbv;repeat' first|exact O5|intro β;cbv|apply O4
 exact hP (fun _=>0) [] _ _ rfl bM
def KW (args:List SV):SM Pay (yJ.X×List Nat):=match args with
 |[.v (.pointer none)]=>.ret ((),[])|_=>.fail
theorem x121n:cI 121:=⟨_,Tryz.func121,rfl,by decide⟩
def r121n:aN:=⟨121,0,false,yJ.app KW,yJ.app_ok k121n KW,fun _ args base β β'=>rfl⟩
def zI:cJ Pay where
 X:=Unit
 args:=fun _=>[.v (.pointer none)]
 pre:=fun _=>[]
 res:=fun _ _=>(.lit .u64 0)
theorem k122n:zI.ok Tryz.prog 122:=by
 refine aJ ⟨false,false⟩ (fun _=>[]) (fun _=>.nil) _ Tryz.func122 Tryz.ntmps122 rfl rfl ?_;intros;rename_i x _ _ _ _ hP;cases x;cbv;repeat' first|exact O5|intro β;cbv|apply O4
 exact hP (fun _=>0) [] _ _ rfl bM
def K7 (args:List SV):SM Pay (zI.X×List Nat):=match args with
 |[.v (.pointer none)]=>.ret ((),[])|_=>.fail
theorem x122n:cI 122:=⟨_,Tryz.func122,rfl,by decide⟩
def r122n:aN:=⟨122,0,false,zI.app K7,zI.app_ok k122n K7,fun _ args base β β'=>rfl⟩
def yW:cJ Pay where
 X:=Unit
 args:=fun _=>[.v (.pointer none)]
 pre:=fun _=>[]
 res:=fun _ _=>(.v (.pointer none))
theorem k125n:yW.ok Tryz.prog 125:=by
 refine aJ ⟨false,false⟩ (fun _=>[]) (fun _=>.nil) _ Tryz.func125 Tryz.ntmps125 rfl rfl ?_;intros;rename_i x _ _ _ _ hP;cases x;cbv;repeat' first|exact O5|intro β;cbv|apply O4
 exact hP (fun _=>0) [] _ _ rfl bM
def K0 (args:List SV):SM Pay (yW.X×List Nat):=match args with
 |[.v (.pointer none)]=>.ret ((),[])|_=>.fail
theorem x125n:cI 125:=⟨_,Tryz.func125,rfl,by decide⟩
def r125n:aN:=⟨125,0,false,yW.app K0,yW.app_ok k125n K0,fun _ args base β β'=>rfl⟩
def zG:cJ Pay where
 X:=Unit
 args:=fun _=>[.v (.pointer none)]
 pre:=fun _=>[]
 res:=fun _ _=>(.v (.pointer none))
theorem k120n:zG.ok Tryz.prog 120:=by
 refine aJ ⟨false,false⟩ (fun _=>[]) (fun _=>.nil) _ Tryz.func120 Tryz.ntmps120 rfl rfl ?_;intros;rename_i x _ _ _ _ hP;cases x;cbv;repeat' first|exact O5|intro β;cbv|apply O4
 exact hP (fun _=>0) [] _ _ rfl bM
def K3 (args:List SV):SM Pay (zG.X×List Nat):=match args with
 |[.v (.pointer none)]=>.ret ((),[])|_=>.fail
theorem x120n:cI 120:=⟨_,Tryz.func120,rfl,by decide⟩
def r120n:aN:=⟨120,0,false,zG.app K3,zG.app_ok k120n K3,fun _ args base β β'=>rfl⟩
def yV:cJ Pay where
 X:=Unit
 args:=fun _=>[.v (.pointer none)]
 pre:=fun _=>[]
 nf:=1
 res:=fun _ _=>.sl 0 0 0 0 0 0
 ws:=fun _ _=>[.cel 0 (.prd (.sl false 0 0 0 0 (.bys 5 0 none)))]
theorem EJ:yV.ok Tryz.prog 205:=by
 refine aJ ⟨false,false⟩ (fun _=>[]) (fun _=>.nil) _ Tryz.func205 Tryz.ntmps205 rfl rfl ?_;intros;rename_i x _ _ _ _ hP;cases x;cbv;repeat' first|exact O5|intro β;cbv|apply O4
 exact hP (fun _=>0) [(99,101)] _ _ rfl ⟨trivial,rfl,rfl,⟨mX 5,trivial⟩⟩
def LS (args:List SV):SM Pay (yV.X×List Nat):=match args with
 |[.v (.pointer none)]=>.ret ((),[])|_=>.fail
theorem x205n:cI 205:=⟨_,Tryz.func205,rfl,by decide⟩
def r205n:aN:=⟨205,1,true,yV.app LS,yV.app_ok EJ LS,fun h=>by cases h⟩
def LC (β:Nat→Nat) (h k:Nat):SV:=.sl h (β k) (β (k+1)) (β (k+2)) 0 (β (k+3))
def KT (β:Nat→Nat) (h k:Nat):W Pay:=.cel h (.prd (.sl true (β k) (β (k+1)) (β (k+2)) (β (k+3)) (.ul 22 .u64 0 [])))
def IG:cJ Pay where
 X:=Unit
 args:=fun _=>[.v (.pointer none)]
 pre:=fun _=>[]
 nf:=4
 res:=fun _ β=>.agg [LC β 0 0,LC β 1 4,LC β 2 8,LC β 3 12,.bl false]
 ws:=fun _ β=>[KT β 0 0,KT β 1 4,KT β 2 8,KT β 3 12]
theorem k94n:IG.ok Tryz.prog 94:=by
 refine aJ ⟨false,false⟩ (fun _=>[]) (fun _=>.nil) _ Tryz.func94 Tryz.ntmps94 rfl rfl ?_;intros;rename_i ji hji _ _ _ _ _ _ _ _ _ _ _ _ _ _ na hna _ _ CM hC _ _ _ _ _ _ hU hI hL _ x _ _ ho hsat hP;cases x;have yna:CM .le (Int.ofNat (na 0 0)) 4294967296=true:=by rw[hC,hna];rfl
 have ena:na 0 0=0:=by rw[hna]
 have eji:ji [] []=[]:=by rw[hji];rfl
 cbv;repeat' first|exact O5|intro β;cbv|apply O4|apply yna;done
 repeat (first|(refine inl @hI Tryz.func134 Tryz.ntmps134 rfl rfl ?_;cbv;repeat' first|exact O5|intro β;cbv|apply O4|apply yna;done)|(refine inl @hI Tryz.func131 Tryz.ntmps131 rfl rfl ?_;cbv;repeat' first|exact O5|intro β;cbv|apply O4|apply yna;done)|(refine inl @hI Tryz.func135 Tryz.ntmps135 rfl rfl ?_;cbv;repeat' first|exact O5|intro β;cbv|apply O4|apply yna;done)|(refine inl @hI Tryz.func136 Tryz.ntmps136 rfl rfl ?_;cbv;repeat' first|exact O5|intro β;cbv|apply O4|apply yna;done)|(refine inl @hI Tryz.func137 Tryz.ntmps137 rfl rfl ?_;cbv;repeat' first|exact O5|intro β;cbv|apply O4|apply yna;done)|(refine inl @hI Tryz.func138 Tryz.ntmps138 rfl rfl ?_;cbv;repeat' first|exact O5|intro β;cbv|apply O4|apply yna;done))
 simp only[ena,eji];rename_i b1 b2 b3;exact hP (fun k=>match k with|0=>b1 0|1=>b1 1|2=>b1 2|3=>b1 3|4=>b2 0|5=>b2 1|6=>b2 2|7=>b2 3|8=>b3 0|9=>b3 1|10=>b3 2|11=>b3 3|12=>β 0|13=>β 1|14=>β 2|_=>β 3) [(1,0),(2,0),(3,0),(4,0)] _ _ rfl ⟨trivial,rfl,rfl,⟨rfl,rfl,rfl,rfl,trivial⟩⟩
def m94n (args:List SV):SM Pay (IG.X×List Nat):=match args with
 |[.v (.pointer none)]=>.ret ((),[])|_=>.fail
theorem x94n:cI 94:=⟨_,Tryz.func94,rfl,by decide⟩
def r94n:aN:=⟨94,4,true,IG.app m94n,IG.app_ok k94n m94n,fun h=>by cases h⟩
def yB:cJ Pay where
 X:=Unit
 args:=fun _=>[.v (.pointer none)]
 pre:=fun _=>[]
 nf:=4
 res:=fun _ β=>.agg [.v (.string ⟨#[]⟩),.i .u64 0,.i .u64 0,LC β 0 0,LC β 1 4,LC β 2 8,LC β 3 12,.bl false]
 ws:=fun _ β=>[KT β 0 0,KT β 1 4,KT β 2 8,KT β 3 12]
theorem k150n:yB.ok Tryz.prog 150:=by
 refine aJ ⟨false,false⟩ (fun _=>[r121n,r122n,r125n,r120n,r205n,r94n]) (fun _=>(.cons x121n (.cons x122n (.cons x125n (.cons x120n (.cons x205n (.cons x94n .nil))))))) _ Tryz.func150 Tryz.ntmps150 rfl rfl ?_;intros;rename_i TX hTX _ _ _ _ _ _ _ _ _ _ _ _ _ _ _ _ x _ _ _ _ hP;cases x;obtain⟨tz,tls,tt,to0,apx⟩:=TX;have ett:tt none=⟨#[]⟩:=congrArg (fun t:TF=>t.t none) hTX;cbv;repeat' first|exact O5|intro β;cbv|apply O4
 simp only[ett];exact hP (β 9) [(2,0),(3,0),(4,0),(5,0)] _ _ rfl ⟨trivial,rfl,rfl,⟨rfl,rfl,rfl,rfl,trivial⟩⟩
def LB (args:List SV):SM Pay (yB.X×List Nat):=match args with
 |[.v (.pointer none)]=>.ret ((),[])|_=>.fail
theorem sC:cI 150:=⟨_,Tryz.func150,rfl,by decide⟩
def sG:aN:=⟨150,4,true,yB.app LB,yB.app_ok k150n LB,fun h=>by cases h⟩
theorem DH (s:ByteArray):tfStd.t (tfStd.o s)=s:=by
 show (match (match Nat.beq s.size 0 with|true=>none|false=>some s.data.toList:Option (List UInt8)) with|some l=>(⟨l.toArray⟩:ByteArray)|none=>.empty)=s;cases h:Nat.beq s.size 0 with
 |true=>
  have h:=Nat.eq_of_beq_eq_true h;obtain⟨⟨d⟩⟩:=s;have:d=[]:=by
   cases d with
   |nil=>rfl|cons a r=>simp[ByteArray.size] at h
  subst this;rfl
 |false=>rfl
def kD:List FV→List FV
 |.st _ [.oi _ _ (some t),.oi _ _ (some i),_,.bys _ _ o]::r=>.sc (.int .u64 t):: .sc (.int .u64 i):: .sc (.int .i64 0):: .sc (.string (tfStd.t o))::kD r|_=>[]
theorem kO:∀es:List EN,(∀e∈es,e.k=0)→kD (entPs es)=entR es
 |[],_=>rfl|e::r,h=>by have h0:e.k=0:=h e (List.mem_cons_self ..);show (.sc (.int .u64 e.t):: .sc (.int .u64 e.i):: .sc (.int .i64 0):: .sc (.string (tfStd.t (tfStd.o e.s)))::kD (entPs r))=_;rw[kO r (fun x hx=>h x (List.mem_cons_of_mem _ hx)),DH,entR,h0]
theorem vW:∀a b:List EN,entR (a++b)=entR a++entR b
 |[],_=>rfl|e::r,b=>by simp[entR,vW r b]
inductive AF (n:Nat) (l out:List FV):Prop where
 |mk (es:List EN) (h1:l=entPs es) (h2:es.length=n) (h3:∀e∈es,e.k=0) (h4:out=entR es) (h5:n≤1000)
def J3:cJ Pay where
 X:=Option (Bool×Nat×Nat×Nat×Nat×Nat×List FV×List FV)
 args:=fun x=>match x with
  |none=>[.v (.slice none 0 0)]|some (sp,nn,b,off,cap,n,l,out)=>[.sl 0 nn b off n cap]
 pre:=fun x=>match x with
  |none=>[]|some (sp,nn,b,off,cap,n,l,out)=>[.prd (.sl sp nn b off cap (.sl 209 1 n l))]
 obl:=fun x=>match x with
  |none=>True|some (sp,nn,b,off,cap,n,l,out)=>AF n l out
 nf:=1
 res:=fun x β=>match x with
  |none=>.v (.slice none 0 0)|some (sp,nn,b,off,cap,n,l,out)=>.sl 1 (β 0) (β 1) (β 2) n (β 3)
 ws:=fun x β=>match x with
  |none=>[]|some (sp,nn,b,off,cap,n,l,out)=>[.cel 1 (.prd (.sl true (β 0) (β 1) (β 2) (β 3) (.sl 81 4 n out)))]
theorem HQ:J3.ok Tryz.prog 149:=by
 refine aJ ⟨false,false⟩ (fun _=>[OG,fZ,r203,r204]) (fun _=>(.cons NY (.cons gJ (.cons x203 (.cons x204 .nil))))) _ Tryz.func149 Tryz.ntmps149 rfl rfl ?_;intros;rename_i hln _ _ _ _ _ _ jf hjf _ _ _ _ NF hNF _ _ _ _ TX hTX na hna AR hA CM hC _ _ _ _ _ _ hU _ hL _ x _ _ ho hsat hP;obtain⟨tz,tls,tt,to0,apx⟩:=TX;have ett:∀s,tt (tfStd.o s)=s:=fun s=>(congrArg (fun t:TF=>t.t (tfStd.o s)) hTX).trans (DH s);rcases x with _|⟨sp,nn,b,off,cap,n,l,out⟩
 ·have c0:CM .lt 0 0=false:=O6;cbv;repeat' first|exact O5|intro β;cbv|apply O4
  refine hU 1 (by decide+kernel) ?_;cbv;repeat' first|exact O5|intro β;cbv|apply O4
  repeat (any_goals (simp only[c0];try (cbv;repeat' first|exact O5|intro β;cbv|apply O4)))
  exact hP (fun _=>0) [(0,1)] _ _ rfl bM
 ·obtain⟨es,hes,hln,hk,hout,hn2⟩:=ho;change l=entPs es at hes;change es.length=n at hln;change out=entR es at hout;change n≤1000 at hn2;obtain⟨dl,hdl⟩:∃dl:Nat→List FV,dl=fun j=>entR (es.take j):=⟨_,rfl⟩;have a0:AR .conv .i64 0 0=0:=by rw[hA];rfl
  have hnn0:0<n→∃k,nn=k+1:=by intro h0;obtain⟨w,F,hs⟩:=hsat;have:=dG (f:=.sl 209 1 n l) rfl h0 (by show 0<1;omega) (bY (h:=0) rfl hs);exact⟨nn-1,by omega⟩
  cbv;repeat' first|exact O5|intro β;cbv|apply O4
  refine hL _ {x:Nat×Nat×Nat×Nat×Nat//x.1≤n} (fun x j=>eO 28 j [(0,.sl 0 nn b off n cap),(3,.sl 1 x.1.2.1 x.1.2.2.1 x.1.2.2.2.1 x.1.1 x.1.2.2.2.2),(6,.sl 0 nn b off n cap),(7,.i .i64 n),(8,.i .i64 x.1.1)])
   (fun x=>[.prd (.sl sp nn b off cap (.sl 209 1 n l)),.prd (.sl true x.1.2.1 x.1.2.2.1 x.1.2.2.2.1 x.1.2.2.2.2 (.sl 81 4 x.1.1 (dl x.1.1)))]) (fun x=>n-x.1.1) ⟨(0,0,0,0,0),by simp⟩ [(0,0),(99,101)] _ _ (by decide+kernel) ?_ ?_
  ·have:dl 0=[]:=by rw[hdl];rfl
   refine⟨by cbv,by cbv,by cbv,⟨rfl,?_,trivial⟩⟩;show eF [.nil] (.prd (.sl true 0 0 0 0 (.sl 81 4 0 (dl 0))));rw[this];exact gE 81 4 true
  rintro⟨⟨i,d1,d2,d3,d4⟩,hi⟩ j LP hsat2 hLP hX hR;change i≤n at hi;rcases Nat.lt_or_ge i n with h|h
  ·obtain⟨k,rfl⟩:=hnn0 (by omega);have h1:CM .lt (Int.ofNat i) (Int.ofNat n)=true:=O6;have h3:CM .le 0 (Int.ofNat i)=true:=O6;have hadd:AR .add .i64 (Int.ofNat i) 1=Int.ofNat (i+1):=by rw[hA];exact fU (by omega)
   obtain⟨e,he⟩:∃e,es[i]?=some e:=⟨es[i],by simp⟩;have hA0:NF l i=.st 212 [.oi 22 .u64 (some e.t),.oi 22 .u64 (some e.i),.oi 306 .i32 none,.bys 5 (tfStd.sz e.s) (tfStd.o e.s)]:=by
    rw[hNF,hes];have e1:(entPs es)[i]?=some (rG e):=by rw[entPs,List.getElem?_map,he];rfl
    have e2:=pB (l:=entPs es) (j:=i) (by rw[entPs,List.length_map];omega);rw[e1] at e2;exact(Option.some.inj e2).symm
   have hke:e.k=0:=hk e (List.mem_of_getElem? he);have ets:=ett e.s;generalize tfStd.o e.s=eo at hA0 ets;generalize tfStd.sz e.s=en at hA0;have hle2:CM .le (Int.ofNat (na i 1)) 4294967296=true:=by rw[hC,hna];simp only[cmStd,decide_eq_true_eq,Int.ofNat_eq_natCast];omega
   cbv;repeat' first|exact O5|intro β;cbv|apply O4
   repeat (any_goals (simp only[h1,hA0,ets,a0];try (cbv;repeat' first|exact O5|intro β;cbv|apply O4)))
   rw[hadd];have e1:na i 1=i+1:=by rw[hna]
   have e2:jf (dl i) [.sc (.int .u64 e.t),.sc (.int .u64 e.i),.sc (.int .i64 0),.sc (.string e.s)]=dl (i+1):=by rw[hjf,hdl];show entR (es.take i)++_=entR (es.take (i+1));rw[List.take_add_one,he,vW];show _=_++entR [e];rw[entR,hke];rfl
   rw[e1];exact hLP ⟨(i+1,β 0,β 1,β 2,β 3),by show i+1≤n;omega⟩ [(0,0),(5,0)] _ (by show n-(i+1)<n-i;omega) ⟨rfl,rfl,rfl,⟨rfl,congrArg (fun z=>Pay.sl true (β 0) (β 1) (β 2) (β 3) (.sl 81 4 (i+1) z)) e2,trivial⟩⟩
  ·have h1:CM .lt (Int.ofNat i) (Int.ofNat n)=false:=O6;cbv;repeat' first|exact O5|intro β;cbv|apply O4
   repeat (any_goals (simp only[h1];try (cbv;repeat' first|exact O5|intro β;cbv|apply O4)))
   apply hX;cbv;repeat' first|exact O5|intro β;cbv|apply O4
   have e1:i=n:=by omega
   subst e1;have e2:dl i=out:=by rw[hdl,hout];show entR (es.take i)=entR es;rw[List.take_of_length_le (by omega)]
   refine hP (fun|0=>d1|1=>d2|2=>d3|_=>d4) [(0,0),(1,0)] _ _ rfl ⟨trivial,rfl,rfl,⟨rfl,?_,trivial⟩⟩;show Pay.sl true d1 d2 d3 d4 (.sl 81 4 i (dl i))=Pay.sl true d1 d2 d3 d4 (.sl 81 4 i out);rw[e2]
def m149 (TX:TF) (args:List SV):SM Pay (J3.X×List Nat):=match args with
 |[.v (.slice none 0 0)]=>.ret (none,[])|[.sl h nn b off n cap]=>.rdC h fun c=>match c with
  |.prd (.sl sp _ _ _ _ (.sl _ _ _ l))=>.ret (some (sp,nn,b,off,cap,n,l,TX.ap kD l),[h])|_=>.fail
 |_=>.fail
theorem wY:cI 149:=⟨_,Tryz.func149,rfl,by decide⟩
def wA (TX:TF):aN:=⟨149,1,true,J3.app (m149 TX),J3.app_ok HQ (m149 TX),fun h=>by cases h⟩
structure MG where
 k:Int
 to:Option Int
 fr:Option Int
 tm:Option Int
 lt:Option Int
 ix:Option Int
 cm:Option Int
 rj:Option Bool
 rh:Option Int
 n:Nat
 d:Option (List UInt8)
def MG.f (m:MG):FV:=.st 269 [.oi 266 .i32 (some m.k),.oi 22 .u64 m.to,.oi 22 .u64 m.fr,.oi 22 .u64 m.tm,.oi 22 .u64 m.lt,.oi 22 .u64 m.ix,.sl 209 1 0 [],.oi 22 .u64 m.cm,.oi 22 .u64 none,.np,.ob 4 m.rj,.oi 22 .u64 m.rh,.bys 5 m.n m.d,.sl 176 1 0 []]
def MG.r (m:MG) (t:ByteArray):List FV:=[.sc (.int .i64 m.k),.sc (.int .u64 (lB 0 m.to)),.sc (.int .u64 (lB 0 m.fr)),.sc (.int .u64 (lB 0 m.tm)),.sc (.int .u64 (lB 0 m.lt)),.sc (.int .u64 (lB 0 m.ix)),.sc (.int .u64 (lB 0 m.cm)),.sc (.int .u64 0),.sc (.int .u64 (lB 0 m.rh)),.sl 81 4 0 [],
 .sc (.string ⟨#[]⟩),.sc (.int .u64 0),.sc (.int .u64 0),.ul 22 .u64 0 [],.ul 22 .u64 0 [],.ul 22 .u64 0 [],.ul 22 .u64 0 [],.sc (.bool false),.sc (.bool (optB m.rj)),.sc (.string t),.sl 38 21 0 []]
inductive DU (m:MG) (t:ByteArray):Prop where
 |mk (h0:0≤m.k) (h1:m.k≤100) (h2:t=tfStd.t m.d)
theorem t151 {sp:Bool} {nn b off cap:Nat} {m:MG} {dt:ByteArray} {K:SV→List C→Prop} (h0:0≤m.k) (h1:m.k≤100) (hdt:dt=tfStd.t m.d)
  (hQ:∀n2 b2 o2 c2:Nat,K (.sl 1 n2 b2 o2 1 c2) [.prd (.sl sp nn b off cap (.sl 176 1 1 [m.f])),.prd (.sl true n2 b2 o2 c2 (.sl 38 21 1 (m.r dt)))]) (F:HProp):
  inS Tryz.prog F 151 [.sl 0 nn b off 1 cap] [.prd (.sl sp nn b off cap (.sl 176 1 1 [m.f]))] K:=by
 obtain⟨k,to',fr,tm,lt,ix,cm,rj,rh,n,d⟩:=m;change 0≤k at h0;change k≤100 at h1;change dt=tfStd.t d at hdt;refine aF ⟨false,false⟩ (fun TX=>[wS,qW,AO,zK,r184,r179,CP,r258,r259,r185,wA TX,r180,sG,r176,C0,r260]) (fun _=>(.cons xI (.cons qX (.cons zX (.cons AI (.cons x184 (.cons x179 (.cons B8 (.cons x258 (.cons x259 (.cons x185 (.cons wY (.cons x180 (.cons sC (.cons x176 (.cons EM (.cons x260 .nil))))))))))))))))) Tryz.func151 Tryz.ntmps151 rfl rfl ?_;intros;rename_i jf hjf _ _ _ _ NF hNF _ _ _ _ TX hTX na hna AR hA CM hC _ _ _ _ _ _ hU hI _ _ _ hsat hP;obtain⟨tz,tls,tt,to0,apx⟩:=TX;have hap:∀{α β:Type} (f:α→β) (x:α),apx f x=f x:=fun f x=>congrArg (fun t:TF=>t.ap f x) hTX;have ett:tt d=dt:=by rw[hdt];exact congrArg (fun t:TF=>t.t d) hTX
 have eap:apx kD []=[]:=by rw[hap];rfl
 have o149:AF 0 [] (apx kD []):=⟨[],rfl,rfl,fun e h=>(by cases h),by rw[hap];rfl,by omega⟩;obtain⟨nn',rfl⟩:∃k,nn=k+1:=by obtain⟨w,F,hs⟩:=hsat;have:=dG (f:=.sl 176 1 1 [MG.f ⟨k,to',fr,tm,lt,ix,cm,rj,rh,n,d⟩]) rfl (by show 0<1;omega) (by show 0<1;omega) (bY (h:=0) rfl hs);exact⟨nn-1,by omega⟩
 have hF:∀x l,NF (x::l) 0=x:=by intro x l;rw[hNF];rfl
 have a0:AR .conv .i64 k 0=k:=by rw[hA];show IntKind.i64.wrap _=_;rw[IntKind.wrap_i64];omega
 have z0:CM .lt 0 (Int.ofNat 1)=true:=O6;have z1:CM .lt 1 (Int.ofNat 1)=false:=O6;have z2:CM .lt 0 0=false:=O6;have z4:CM .lt 0 (Int.ofNat 0)=false:=O6;have z3:CM .le 0 0=true:=O6;have x1:AR .add .i64 0 1=1:=O7;have yna:CM .le (Int.ofNat (na 0 1)) 4294967296=true:=by rw[hC,hna];rfl
 have ena:na 0 1=1:=by rw[hna]
 have ejf:∀l,jf [] l=l:=by intro l;rw[hjf];rfl
 cbv;repeat' first|exact O5|intro β;cbv|apply O4|apply o149;done|apply yna;done
 refine hU 2 (by decide+kernel) ?_;cbv;repeat' first|exact O5|intro β;cbv|apply O4|apply o149;done|apply yna;done
 repeat (any_goals (simp only[z0,hF];try (cbv;repeat' first|exact O5|intro β;cbv|apply O4|apply o149;done|apply yna;done)))
 refine inl @hI Tryz.func206 Tryz.ntmps206 rfl rfl ?_;cbv;repeat' first|exact O5|intro β;cbv|apply O4|apply o149;done|apply yna;done
 repeat (any_goals (simp only[a0,ett,eap];try (cbv;repeat' first|exact O5|intro β;cbv|apply O4|apply o149;done|apply yna;done)))
 refine hU 1 (by decide+kernel) ?_;cbv;repeat' first|exact O5|intro β;cbv|apply O4|apply o149;done|apply yna;done
 repeat (any_goals (simp only[z2,z4,a0,ett,eap,x1,z1,ejf,ena];try (cbv;repeat' first|exact O5|intro β;cbv|apply O4|apply o149;done|apply yna;done)))
 refine hP [(0,0),(3,0)] _ _ _ _ ?_ rfl ?_ (hQ ?A1 ?A2 ?A3 ?A4)
 ·rfl
 ·exact⟨rfl,rfl,trivial⟩
theorem t151n {K:SV→List C→Prop} (hQ:K (.v (.slice none 0 0)) [.free]) (F:HProp):inS Tryz.prog F 151 [.v (.slice none 0 0)] [.free] K:=by
 refine aF ⟨false,false⟩ (fun _=>[]) (fun _=>.nil) Tryz.func151 Tryz.ntmps151 rfl rfl ?_;intros;rename_i CM _ _ _ _ _ _ _ hU _ _ _ _ _ hP;have z2:CM .lt 0 0=false:=O6;cbv;repeat' first|exact O5|intro β;cbv|apply O4
 refine hU 1 (by decide+kernel) ?_;cbv;repeat' first|exact O5|intro β;cbv|apply O4
 repeat (any_goals (simp only[z2];try (cbv;repeat' first|exact O5|intro β;cbv|apply O4)))
 exact hP [(0,1)] _ _ _ _ rfl rfl bM hQ
def J5:cJ Pay where
 X:=Option (Bool×Nat×Nat×Nat×Nat×MG×ByteArray)
 args:=fun x=>match x with
  |none=>[.v (.slice none 0 0)]|some (sp,nn,b,off,cap,m,t)=>[.sl 0 nn b off 1 cap]
 pre:=fun x=>match x with
  |none=>[]|some (sp,nn,b,off,cap,m,t)=>[.prd (.sl sp nn b off cap (.sl 176 1 1 [m.f]))]
 obl:=fun x=>match x with
  |none=>True|some (sp,nn,b,off,cap,m,t)=>DU m t
 nf:=1
 res:=fun x β=>match x with
  |none=>.v (.slice none 0 0)|some (sp,nn,b,off,cap,m,t)=>.sl 1 (β 0) (β 1) (β 2) 1 (β 3)
 ws:=fun x β=>match x with
  |none=>[]|some (sp,nn,b,off,cap,m,t)=>[.cel 1 (.prd (.sl true (β 0) (β 1) (β 2) (β 3) (.sl 38 21 1 (m.r t))))]
theorem IV:J5.ok Tryz.prog 151:=by
 refine cK fun x F K ho hK=>?_;rcases x with _|⟨sp,nn,b,off,cap,m,t⟩
 ·exact inS.view (heap':=[.free]) (args':=[.v (.slice none 0 0)]) (t151n (hK (fun _=>0) trivial) F) rfl (fun w hs=>by show sat w (star (star emp emp) F);rw[aH];exact hs)
 ·obtain⟨h0,h1,h2⟩:=ho;exact t151 h0 h1 h2 (fun n2 b2 o2 c2=>hK (fun|0=>n2|1=>b2|2=>o2|_=>c2) trivial) F
def m151 (TX:TF) (args:List SV):SM Pay (J5.X×List Nat):=match args with
 |[.v (.slice none 0 0)]=>.ret (none,[])|[.sl h nn b off _ cap]=>.rdC h fun c=>match c with
  |.prd (.sl sp _ _ _ _ (.sl _ _ _ [.st _ [.oi _ _ (some k),.oi _ _ to',.oi _ _ fr,.oi _ _ tm,.oi _ _ lt,.oi _ _ ix,_,.oi _ _ cm,_,_,.ob _ rj,.oi _ _ rh,.bys _ n d,_]]))=>.ret (some (sp,nn,b,off,cap,⟨k,to',fr,tm,lt,ix,cm,rj,rh,n,d⟩,TX.t d),[h])|_=>.fail
 |_=>.fail
theorem CI:cI 151:=⟨_,Tryz.func151,rfl,by decide⟩
def BR (TX:TF):aN:=⟨151,1,true,J5.app (m151 TX),J5.app_ok IV (m151 TX),fun h=>by cases h⟩
end Go.Sx
