import Derived.Test.YtjikgjdicpggkaaGreatX24
set_option autoImplicit true
set_option relaxedAutoImplicit true
set_option linter.all false
set_option maxRecDepth 100000
set_option maxHeartbeats 4000000
namespace Go.Sx
open Go Go.Proofs
def hbF (to fr tm:Int) (oC:Option Int) (n:Nat) (d:Option (List UInt8)):List FV:=[.oi 266 .i32 (some 8),.oi 22 .u64 (some to),.oi 22 .u64 (some fr),.oi 22 .u64 (some tm),.oi 22 .u64 none,.oi 22 .u64 none,.sl 209 1 0 [],.oi 22 .u64 oC,.oi 22 .u64 none,.np,.ob 4 none,.oi 22 .u64 none,.bys 5 n d,.sl 176 1 0 []]
def hrF (to fr tm:Int) (n:Nat) (d:Option (List UInt8)):FV:=.st 269 [.oi 266 .i32 (some 9),.oi 22 .u64 (some to),.oi 22 .u64 (some fr),.oi 22 .u64 (some tm),.oi 22 .u64 none,.oi 22 .u64 none,.sl 209 1 0 [],.oi 22 .u64 none,.oi 22 .u64 none,.np,.ob 4 none,.oi 22 .u64 none,.bys 5 n d,.sl 176 1 0 []]
theorem N6 {x:RF} {lf:Bool} {o:LL} {V L:List Int} {P':MQ} {s:STO} {g:LGF} {h1 h2:Value} {z:ZF} {ro:Int} {to fr tm cm co2:Int} {oC:Option Int} {nx2:Nat} {cx:Option (List UInt8)} {ab mb:Nat} {K:SV→List C→Prop} (hT:TrkOK V L P')
  (hs0:0≤s.i0) (hs1:s.i0≤1099511627776) (hsn1:1≤s.n) (hsn2:s.n≤100000) (htm:1≤tm) (hfr:1≤fr) (hid:fr≠x.id) (hoC:lB 0 oC=cm) (hcm:cm≤s.i0+s.n-1) (ht:tm=x.term) (hco2:co2=if g.co<cm then cm else g.co)
  (hKK:∀(d2:Int) (rb off cap nn:Nat),K (.v .nilIface) (fI {x with lead:=fr} o lf (.sl 11 nn rb off 1 cap) (.v (.slice none 0 0)) V P' {g with co:=co2} ro ab z {s with hs:=.v h1,sn:=.v h2,c2:=d2}++[.prd (.sl true nn rb off cap (.sl 176 1 1 [hrF fr x.id tm nx2 cx]))])) (F:HProp):
  inS Tryz.prog F 139 [.ptr 0 x.b 0,.ptr 11 mb 0]
   (fI x o lf (.v (.slice none 0 0)) (.v (.slice none 0 0)) V P' g ro ab z {s with hs:=.v h1,sn:=.v h2}++[.prd (.st mb 269 (hbF to fr tm oC nx2 cx))]) K:=by
 obtain⟨b,id,term,vote,lb,ms,vb,pb,wb,mi,lead,cq,pv,hT',et,rt,nf,sd,ob,nx⟩:=x;obtain⟨g1,g2,g3,g4,g5,g6,g7⟩:=g;obtain⟨sb,hs,sn',nn,eb,off,cap,n,k0,k1,k2,k3,k4,k5,sp,t0,i0,f3,f4,es⟩:=s;obtain⟨zp,zn,zb,zo,zl,zc,Z⟩:=z;change 0≤i0 at hs0;change i0≤1099511627776 at hs1;change 1≤n at hsn1;change n≤100000 at hsn2;change tm=term at ht;change co2=if g2<cm then cm else g2 at hco2;change cm≤i0+(n:Int)-1 at hcm;change fr≠id at hid
 subst ht;refine aF ⟨false,false⟩ (fun TX=>[vB TX,wS,AO,zK,C0,nH,qW,CP]) (fun _=>(.cons uH (.cons xI (.cons zX (.cons AI (.cons EM (.cons nU (.cons qX (.cons B8 .nil))))))))) Tryz.func139 Tryz.ntmps139 rfl rfl ?_;intros;rename_i jf hjf _ _ _ _ _ _ _ _ _ _ TX hTX na hna _ _ CM hC _ _ _ _ _ _ hU hI hL _ _ hsat hP;obtain⟨tz,tls,tt,to0,apx⟩:=TX;have hap:∀{α β:Type} (f:α→β) (x:α),apx f x=f x:=fun f x=>congrArg (fun t:TF=>t.ap f x) hTX;have p0:∀k,gT k (apx bQ k):=fun k=>⟨by rw[hap];rfl⟩;have e1:apx dK (i0,n)=i0+n-1:=by rw[hap];rfl
 have o2:xF i0 n (apx dK (i0,n)):=⟨hs0,by omega,by rw[hap];rfl,hsn1⟩;have hlc:CM .lt (apx dK (i0,n)) cm=false:=by rw[hC,e1];simp only[cmStd,decide_eq_false_iff_not];omega
 have c1:CM .eq tm 0=false:=O6;have c2:CM .lt tm tm=false:=O6;have c7:CM .eq 0 0=true:=O6;have w85:CM .eq 8 5=false:=O6;have w817:CM .eq 8 17=false:=O6;have w80:CM .eq 8 0=false:=O6;have w820:CM .eq 8 20=false:=O6;have w822:CM .eq 8 22=false:=O6;have v95:CM .eq 9 5=false:=O6;have v96:CM .eq 9 6=false:=O6;have v917:CM .eq 9 17=false:=O6;have v918:CM .eq 9 18=false:=O6;have v94:CM .eq 9 4=false:=O6;have v92:CM .ne 9 2=true:=O6;have v915:CM .ne 9 15=true:=O6;have wne:CM .ne 0 0=false:=O6;have hfi:CM .eq fr id=false:=O6;have v82:CM .eq 8 2=false:=O6;have v83:CM .eq 8 3=false:=O6;have v88:CM .eq 8 8=true:=O6;have v87:CM .eq 8 7=false:=O6;have yna:CM .le (Int.ofNat (na 0 1)) 4294967296=true:=by rw[hC,hna];rfl
 have ena:na 0 1=1:=by rw[hna]
 have ejf:∀l,jf [] l=l:=by intro l;rw[hjf];rfl
 unfold lB at hoC;cbv;repeat' first|exact O5|intro β;cbv|apply O4|apply p0;done|apply yna;done
 repeat (any_goals (simp only[c1,c2,w85,w817,w80,w820,w822];try (cbv;repeat' first|exact O5|intro β;cbv|apply O4|apply p0;done|apply yna;done)))
 refine inl @hI Tryz.func229 Tryz.ntmps229 rfl rfl ?_;cbv;repeat' first|exact O5|intro β;cbv|apply O4|apply p0;done|apply yna;done
 repeat (any_goals (simp only[v87,v88,v82,v83];try (cbv;repeat' first|exact O5|intro β;cbv|apply O4|apply p0;done|apply yna;done)))
 refine inl @hI Tryz.func288 Tryz.ntmps288 rfl rfl ?_;cbv;repeat' first|exact O5|intro β;cbv|apply O4|apply p0;done|apply yna;done
 refine inl @hI Tryz.func343 Tryz.ntmps343 rfl rfl ?_;cbv;repeat' first|exact O5|intro β;cbv|apply O4|apply p0;done|apply yna;done
 rcases hq:CM .lt g2 cm with _|_
 ·have q:¬g2<cm:=by rw[hC] at hq;simpa [cmStd] using hq
  rw[if_neg q] at hco2;subst hco2
  repeat (any_goals (simp only[hq,hoC];try (cbv;repeat' first|exact O5|intro β;cbv|apply O4|apply p0;done|apply yna;done)))
  refine inl @hI Tryz.func178 Tryz.ntmps178 rfl rfl ?_;cbv;repeat' first|exact O5|intro β;cbv|apply O4|apply p0;done|apply yna;done
  repeat (any_goals (simp only[c7,v95,v96,v917,v918,v92,v915,v94,wne,hfi];try (cbv;repeat' first|exact O5|intro β;cbv|apply O4|apply p0;done|apply yna;done)))
  rename_i bw;simp only[ena,ejf];have hk:=hKK k2 (bw 1) (bw 2) (bw 3) (bw 0);refine hP [(0,0),(1,0),(2,0),(3,0),(4,0),(5,0),(6,0),(7,0),(8,0),(9,0),(10,0),(26,0)] _ _ _ _ ?_ rfl ?_ hk<;>(first|(rfl;done)|(refine⟨⟨rfl,rfl,rfl,?_⟩,rfl,rfl,aT _,⟨rfl,rfl,rfl,?_⟩,rfl,⟨rfl,rfl,rfl,rfl⟩,rfl,⟨rfl,rfl,rfl,?_⟩,rfl,rfl,?_,trivial⟩<;>rfl))
 ·have q:g2<cm:=by rw[hC] at hq;simpa [cmStd] using hq
  rw[if_pos q] at hco2;subst hco2
  repeat (any_goals (simp only[hq,hoC,hlc];try (cbv;repeat' first|exact O5|intro β;cbv|apply O4|apply p0;done|apply yna;done)))
  refine inl @hI Tryz.func178 Tryz.ntmps178 rfl rfl ?_;cbv;repeat' first|exact O5|intro β;cbv|apply O4|apply p0;done|apply yna;done
  repeat (any_goals (simp only[c7,v95,v96,v917,v918,v92,v915,v94,wne,hfi];try (cbv;repeat' first|exact O5|intro β;cbv|apply O4|apply p0;done|apply yna;done)))
  rename_i bw;simp only[ena,ejf];have hk:=hKK (apx bQ k2) (bw 1) (bw 2) (bw 3) (bw 0);refine hP [(0,0),(1,0),(2,0),(3,0),(4,0),(5,0),(6,0),(7,0),(8,0),(9,0),(10,0),(26,0)] _ _ _ _ ?_ rfl ?_ hk<;>(first|(rfl;done)|(refine⟨⟨rfl,rfl,rfl,?_⟩,rfl,rfl,aT _,⟨rfl,rfl,rfl,?_⟩,rfl,⟨rfl,rfl,rfl,rfl⟩,rfl,⟨rfl,rfl,rfl,?_⟩,rfl,rfl,?_,trivial⟩<;>rfl))
end Go.Sx
