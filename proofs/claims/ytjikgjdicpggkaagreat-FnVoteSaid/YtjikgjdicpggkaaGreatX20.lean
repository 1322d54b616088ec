import Derived.Test.YtjikgjdicpggkaaGreatX18
import Derived.Test.YtjikgjdicpggkaaGreatX19
set_option autoImplicit true
set_option relaxedAutoImplicit true
set_option linter.all false
set_option maxRecDepth 100000
set_option maxHeartbeats 4000000
namespace Go.Sx
open Go Go.Proofs
def cmN (x:LGF):Nat:=(x.co-x.ai).toNat
def cmL (x:LGF×STO):List FV:=((GQ x.2::x.2.es).drop (x.1.ai+1-x.2.i0).toNat).take (cmN x.1)
inductive gS (g:LGF) (s:STO) (m:Nat) (rl:List FV):Prop where
 |mk (h1:g.pz=false) (h2:0≤s.i0) (h3:s.i0≤g.ai) (h4:g.ai<g.co) (h5:g.co≤s.i0+s.n-1) (h6:g.off=s.i0+s.n) (h7:s.i0+s.n≤9223372036854775807) (h8:EnsOK rl m) (h9:m=cmN g) (h10:m≤100)
  (h11:0≤g.sz) (h12:g.sz+20000≤g.mx) (h13:g.mx<18446744073709551616) (h14:rl=cmL (g,s))
def yQ:cJ Pay where
 X:=(Nat×LGF)×STO×Nat×List FV×Int×Int×Int
 args:=fun((b,g),s,m,rl,d1,d2,d3)=>[.ptr 0 b 0,.bl true]
 pre:=fun((b,g),s,m,rl,d1,d2,d3)=>[oO b 1 s.b g.r,s.raw 2,s.row]
 obl:=fun((b,g),s,m,rl,d1,d2,d3)=>gS g s m rl∧gT s.c1 d1∧gT s.c2 d2∧gT s.c3 d3
 nf:=1
 res:=fun((b,g),s,m,rl,d1,d2,d3) β=>.sl 3 (s.nn+1) s.eb (β 0) m m
 ws:=fun((b,g),s,m,rl,d1,d2,d3) β=>[.fld 1 4 (.i .i64 d1),.fld 1 5 (.i .i64 d2),.fld 1 6 (.i .i64 d3),.cel 3 (.prd (.sl false (s.nn+1) s.eb (β 0) m (.sl 209 1 m rl)))]
theorem DZ:yQ.ok Tryz.prog 244:=by
 refine aJ ⟨false,false⟩ (fun TX=>[lY,OE TX,vB TX,fZ,r216]) (fun _=>(.cons lZ (.cons NX (.cons uH (.cons gJ (.cons x216 .nil)))))) _ Tryz.func244 Tryz.ntmps244 rfl rfl ?_;intros;rename_i df hdf _ _ _ _ _ _ ns hns _ _ NF hNF _ _ _ _ TX hTX _ _ AR hA CM _ _ _ _ _ _ _ _ hI _ _ x _ _ ho _ hP;obtain⟨⟨b,⟨off,co,ai,ad,mx,sz,pz⟩⟩,⟨sb,hs,sn',nn,eb,ro,cap,n,k0,k1,k2,k3,k4,k5,sp,t0,i0,f3,f4,es⟩,m,rl,d1,d2,d3⟩:=x;obtain⟨⟨h1,h2,h3,h4,h5,h6,h7,h8,h9,h10,h11,h12,h13,h14⟩,⟨q1⟩,⟨q2⟩,⟨q3⟩⟩:=ho;change pz=false at h1;change 0≤i0 at h2;change i0≤ai at h3;change ai<co at h4;change co≤i0+(n:Int)-1 at h5;change off=i0+(n:Int) at h6;change i0+(n:Int)≤9223372036854775807 at h7;change EnsOK rl m at h8;change m=(co-ai).toNat at h9;change m≤100 at h10;change 0≤sz at h11;change sz+20000≤mx at h12;change mx<18446744073709551616 at h13;change rl=(((.st 212 [.oi 22 .u64 (some t0),.oi 22 .u64 (some i0),f3,f4]:FV)::es).drop (ai+1-i0).toNat).take (co-ai).toNat at h14;change d1=arStd .add .i64 k1 1 at q1;change d2=arStd .add .i64 k2 1 at q2;change d3=arStd .add .i64 k3 1 at q3;subst h1;obtain⟨tz,tl,tt,to,ap⟩:=TX;have hap:∀{α β:Type} (f:α→β) (x:α),ap f x=f x:=fun f x=>congrArg (fun t:TF=>t.ap f x) hTX;have p1:ap bQ k1=d1:=by rw[hap,q1];rfl
 have p2:ap bQ k2=d2:=by rw[hap,q2];rfl
 have p3:AR .add .i64 k3 1=d3:=by rw[q3,hA]
 have o1:gT k1 (ap bQ k1):=⟨by rw[hap];rfl⟩;have o2:gT k2 (ap bQ k2):=⟨by rw[hap];rfl⟩;have hn:1≤n:=by omega
 have o3:NE i0 n (ap B0 i0):=⟨h2,by omega,by rw[hap];rfl,hn⟩;have o4:xF i0 n (ap dK (i0,n)):=⟨h2,h7,by rw[hap];rfl,hn⟩;obtain⟨fi,hfi⟩:∃fi,ap B0 i0=fi:=⟨_,rfl⟩;obtain⟨la,hla⟩:∃la,ap dK (i0,n)=la:=⟨_,rfl⟩;have hfi2:fi=i0+1:=by rw[←hfi,hap];rfl
 have hla2:la=i0+(n:Int)-1:=by rw[←hla,hap];rfl
 have hF:∀x l,NF (x::l) 0=x:=by intro x l;rw[hNF];rfl
 obtain⟨a,ha⟩:∃a,a=(ai+1-i0).toNat:=⟨_,rfl⟩;obtain⟨e,he⟩:∃e,e=a+m:=⟨_,rfl⟩;obtain⟨lo,hlo⟩:∃lo:Int,lo=ai+1:=⟨_,rfl⟩;replace hlo:lo=ai+1:=hlo;obtain⟨hi,hhi⟩:∃hi:Int,hi=co+1:=⟨_,rfl⟩;replace hhi:hi=co+1:=hhi;obtain⟨ms,hms⟩:∃ms:Int,ms=mx-sz:=⟨_,rfl⟩;replace hms:ms=mx-sz:=hms;obtain⟨l1,hl1⟩:∃l1:Int,l1=la+1:=⟨_,rfl⟩;replace hl1:l1=la+1:=hl1;obtain⟨ln1,hln1⟩:∃ln1:Int,ln1=l1-fi:=⟨_,rfl⟩;replace hln1:ln1=l1-fi:=hln1;obtain⟨up,hup⟩:∃up:Int,up=fi+ln1:=⟨_,rfl⟩;replace hup:up=fi+ln1:=hup;obtain⟨j,hj⟩:∃j:Int,j=i0+(n:Int):=⟨_,rfl⟩;replace hj:j=i0+(n:Int):=hj;obtain⟨jm,hjm⟩:∃jm:Int,jm=j-1:=⟨_,rfl⟩;replace hjm:jm=j-1:=hjm;have a1:AR .add .u64 ai 1=lo:=O7;have a2:AR .add .u64 co 1=hi:=O7;have a3:AR .sub .u64 mx sz=ms:=O7;have a4:AR .add .u64 la 1=l1:=O7;have a5:AR .sub .u64 l1 fi=ln1:=O7;have a6:AR .add .u64 fi ln1=up:=O7;have a7:AR .conv .u64 (Int.ofNat n) 0=Int.ofNat n:=O7;have a8:AR .add .u64 i0 (Int.ofNat n)=j:=O7;have a9:AR .sub .u64 j 1=jm:=O7;have b1:AR .add .u64 jm 1=j:=O7;have b2:AR .sub .u64 lo i0=Int.ofNat a:=O7;have b3:AR .sub .u64 hi i0=Int.ofNat e:=O7;have b4:AR .conv .u64 ms 0=ms:=O7;have b5:AR .min .u64 hi off=hi:=by rw[hA];simp only[arStd];omega
 have c1:CM .le hi lo=false:=O6;have c2:CM .le ms 0=false:=O6;have c3:CM .lt hi lo=false:=O6;have c4:CM .lt lo fi=false:=O6;have c5:CM .lt up hi=false:=O6;have c6:CM .eq lo hi=false:=O6;have c7:CM .le off lo=false:=O6;have c8:CM .le lo i0=false:=O6;have c9:CM .lt j hi=false:=O6;have e1:CM .eq (Int.ofNat n) 1=false:=O6;have e2:CM .le hi off=true:=O6;have g1:CM .le 0 0=true:=O6;have g2:CM .lt 0 (Int.ofNat n)=true:=O6;have g3:CM .le (Int.ofNat a) (Int.ofNat e)=true:=O6;have g4:CM .le (Int.ofNat e) (Int.ofNat n)=true:=O6;have g5:CM .le 0 (Int.ofNat a)=true:=O6;have g6:CM .le 0 (Int.ofNat e)=true:=O6;have g7:CM .le 0 (Int.ofNat m)=true:=O6;have g8:CM .le (Int.ofNat 0) (Int.ofNat m)=true:=O6;have g9:CM .le (Int.ofNat m) (Int.ofNat m)=true:=O6;have r1:ns e a=m:=by rw[hns];show e-a=m;omega
 have r2:df (.st 212 [.oi 22 .u64 (some t0),.oi 22 .u64 (some i0),f3,f4]::es) a e 1=rl:=by rw[hdf,h14,ha];show ((_::es).drop (_*1)).take ((e-_)*1)=_;rw[Nat.mul_one,Nat.mul_one,←ha,←h9];congr 1;omega
 have r3:ns m 0=m:=by rw[hns];rfl
 have r4:df rl 0 m 1=rl:=by rw[hdf];show (rl.drop (0*1)).take ((m-0)*1)=rl;rw[Nat.zero_mul,List.drop_zero,Nat.mul_one,Nat.sub_zero];apply List.take_of_length_le;rw[h14,←h9];exact List.length_take_le _ _
 have o216:NG rl m ms:=⟨h8,h10,by omega,by omega⟩;cbv;repeat' first|exact O5|intro β;cbv|apply O4|apply o1;done|apply o2;done|apply o3;done|apply o4;done
 refine inl @hI Tryz.func242 Tryz.ntmps242 rfl rfl ?_;cbv;repeat' first|exact O5|intro β;cbv|apply O4|apply o1;done|apply o2;done|apply o3;done|apply o4;done
 repeat (any_goals (simp only[a1,a2,a3,c1,c2];try (cbv;repeat' first|exact O5|intro β;cbv|apply O4|apply o1;done|apply o2;done|apply o3;done|apply o4;done)))
 refine inl @hI Tryz.func305 Tryz.ntmps305 rfl rfl ?_;cbv;repeat' first|exact O5|intro β;cbv|apply O4|apply o1;done|apply o2;done|apply o3;done|apply o4;done
 refine inl @hI Tryz.func349 Tryz.ntmps349 rfl rfl ?_;cbv;repeat' first|exact O5|intro β;cbv|apply O4|apply o1;done|apply o2;done|apply o3;done|apply o4;done
 repeat (any_goals (simp only[hfi,hla,a4,a5,a6,c3,c4,c5,c6,c7,b4,b5];try (cbv;repeat' first|exact O5|intro β;cbv|apply O4|apply o1;done|apply o2;done|apply o3;done|apply o4;done)))
 refine inl @hI Tryz.func165 Tryz.ntmps165 rfl rfl ?_;cbv;repeat' first|exact O5|intro β;cbv|apply O4|apply o1;done|apply o2;done|apply o3;done|apply o4;done
 repeat (any_goals (simp only[hF,g1,g2,c8];try (cbv;repeat' first|exact O5|intro β;cbv|apply O4|apply o1;done|apply o2;done|apply o3;done|apply o4;done)))
 refine inl @hI Tryz.func160 Tryz.ntmps160 rfl rfl ?_;cbv;repeat' first|exact O5|intro β;cbv|apply O4|apply o1;done|apply o2;done|apply o3;done|apply o4;done
 repeat (any_goals (simp only[hF,a7,a8,a9,b1,c9,e1,b2,b3];try (cbv;repeat' first|exact O5|intro β;cbv|apply O4|apply o1;done|apply o2;done|apply o3;done|apply o4;done)))
 all_goals try assumption
 repeat (any_goals (simp only[r1,r2,r3,r4,e2];try (cbv;repeat' first|exact O5|intro β;cbv|apply O4|apply o1;done|apply o2;done|apply o3;done|apply o4;done)))
 all_goals try assumption
 simp only[p1,p2,p3];exact hP (fun _=>β 0) [(0,0),(1,0),(2,0),(16,0)] _ _ rfl ⟨trivial,rfl,rfl,⟨⟨rfl,rfl,rfl,rfl⟩,⟨rfl,rfl,rfl,rfl⟩,rfl,rfl,trivial⟩⟩
def KR (TX:TF) (args:List SV):SM Pay (yQ.X×List Nat):=match args with
 |[.ptr h _ _,_]=>KI h fun b g sb gp=>JX gp fun s q=>.ret (((b,g),s,TX.ap cmN g,TX.ap cmL (g,s),TX.ap bQ s.c1,TX.ap bQ s.c2,TX.ap bQ s.c3),[h,gp,q])|_=>.fail
theorem DF:cI 244:=⟨_,Tryz.func244,rfl,by decide⟩
def BE (TX:TF):aN:=⟨244,1,true,yQ.app (KR TX),yQ.app_ok DZ (KR TX),fun h=>by cases h⟩
theorem vS {s:STO} {h1 h2 w0 w5 w6:Value} {sy:Bool} {K:SV→List C→Prop}
  (hQ:K (.tup []) [STO.raw {s with hs:=.v h1,sn:=.v h2} 1,s.row]) (F:HProp):
  inS Tryz.prog F 153 [.ptr 0 s.b 0,.agg [.v w0,.v (.pointer none),.v (.slice none 0 0),.v (.slice none 0 0),.v (.pointer none),.v w5,.v w6,.bl sy]] [STO.raw {s with hs:=.v h1,sn:=.v h2} 1,s.row] K:=by
 obtain⟨sb,hs,sn',nn,eb,ro,cap,n,k0,k1,k2,k3,k4,k5,sp,t0,i0,f3,f4,es⟩:=s;refine aF ⟨false,false⟩ (fun _=>[]) (fun _=>.nil) Tryz.func153 Tryz.ntmps153 rfl rfl ?_;intros;rename_i CM _ _ _ _ _ _ _ _ hI _ _ _ _ hP;have z0:CM .eq 0 0=true:=O6;cbv;repeat' first|exact O5|intro β;cbv|apply O4
 repeat (first|(refine inl @hI Tryz.func154 Tryz.ntmps154 rfl rfl ?_;cbv;repeat' first|exact O5|intro β;cbv|apply O4)|(refine inl @hI Tryz.func120 Tryz.ntmps120 rfl rfl ?_;cbv;repeat' first|exact O5|intro β;cbv|apply O4)|(refine inl @hI Tryz.func121 Tryz.ntmps121 rfl rfl ?_;cbv;repeat' first|exact O5|intro β;cbv|apply O4))
 repeat (any_goals (simp only[z0];try (cbv;repeat' first|exact O5|intro β;cbv|apply O4)))
 repeat (first|(refine inl @hI Tryz.func86 Tryz.ntmps86 rfl rfl ?_;cbv;repeat' first|exact O5|intro β;cbv|apply O4))
 repeat (any_goals (simp only[z0];try (cbv;repeat' first|exact O5|intro β;cbv|apply O4)))
 repeat (first|(refine inl @hI Tryz.func114 Tryz.ntmps114 rfl rfl ?_;cbv;repeat' first|exact O5|intro β;cbv|apply O4)|(refine inl @hI Tryz.func152 Tryz.ntmps152 rfl rfl ?_;cbv;repeat' first|exact O5|intro β;cbv|apply O4))
 repeat (any_goals (simp only[z0];try (cbv;repeat' first|exact O5|intro β;cbv|apply O4)))
 refine hP [(0,0),(1,0)] _ _ _ _ ?_ rfl ?_ hQ
 ·rfl
 ·exact aP
theorem uW {s:STO} {h1 h2 w0 w5 w6:Value} {sy:Bool} {nhb:Nat} {tm vo co:Int} {K:SV→List C→Prop} (htm:1≤tm)
  (hQ:K (.tup []) [STO.raw {s with hs:=.v (.pointer (some ⟨nhb,0,none⟩)),sn:=.v h2} 1,s.row,.prd (.st nhb 226 (oN tm vo co))]) (F:HProp):
  inS Tryz.prog F 153 [.ptr 0 s.b 0,.agg [.v w0,.ptr 2 nhb 0,.v (.slice none 0 0),.v (.slice none 0 0),.v (.pointer none),.v w5,.v w6,.bl sy]] [STO.raw {s with hs:=.v h1,sn:=.v h2} 1,s.row,.prd (.st nhb 226 (oN tm vo co))] K:=by
 obtain⟨sb,hs,sn',nn,eb,ro,cap,n,k0,k1,k2,k3,k4,k5,sp,t0,i0,f3,f4,es⟩:=s;refine aF ⟨false,false⟩ (fun _=>[fH,fL,fQ]) (fun _=>(.cons fG (.cons fE (.cons fP .nil)))) Tryz.func153 Tryz.ntmps153 rfl rfl ?_;intros;rename_i CM _ _ _ _ _ _ _ _ hI _ _ _ _ hP;have z0:CM .eq 0 0=true:=O6;have z1:CM .eq tm 0=false:=O6;cbv;repeat' first|exact O5|intro β;cbv|apply O4
 repeat (first|(refine inl @hI Tryz.func154 Tryz.ntmps154 rfl rfl ?_;cbv;repeat' first|exact O5|intro β;cbv|apply O4)|(refine inl @hI Tryz.func120 Tryz.ntmps120 rfl rfl ?_;cbv;repeat' first|exact O5|intro β;cbv|apply O4)|(refine inl @hI Tryz.func121 Tryz.ntmps121 rfl rfl ?_;cbv;repeat' first|exact O5|intro β;cbv|apply O4))
 repeat (any_goals (simp only[z0];try (cbv;repeat' first|exact O5|intro β;cbv|apply O4)))
 repeat (first|(refine inl @hI Tryz.func86 Tryz.ntmps86 rfl rfl ?_;cbv;repeat' first|exact O5|intro β;cbv|apply O4))
 repeat (any_goals (simp only[z0];try (cbv;repeat' first|exact O5|intro β;cbv|apply O4)))
 repeat (first|(refine inl @hI Tryz.func114 Tryz.ntmps114 rfl rfl ?_;cbv;repeat' first|exact O5|intro β;cbv|apply O4)|(refine inl @hI Tryz.func152 Tryz.ntmps152 rfl rfl ?_;cbv;repeat' first|exact O5|intro β;cbv|apply O4)|(refine inl @hI Tryz.func207 Tryz.ntmps207 rfl rfl ?_;cbv;repeat' first|exact O5|intro β;cbv|apply O4)|(refine inl @hI Tryz.func196 Tryz.ntmps196 rfl rfl ?_;cbv;repeat' first|exact O5|intro β;cbv|apply O4))
 repeat (any_goals (simp only[z0,z1];try (cbv;repeat' first|exact O5|intro β;cbv|apply O4)))
 repeat (first|(refine inl @hI Tryz.func88 Tryz.ntmps88 rfl rfl ?_;cbv;repeat' first|exact O5|intro β;cbv|apply O4)|(refine inl @hI Tryz.func114 Tryz.ntmps114 rfl rfl ?_;cbv;repeat' first|exact O5|intro β;cbv|apply O4))
 repeat (any_goals (simp only[z0];try (cbv;repeat' first|exact O5|intro β;cbv|apply O4)))
 refine hP [(0,0),(1,0),(2,0)] _ _ _ _ ?_ rfl ?_ hQ
 ·rfl
 ·exact aP
def FB:cJ Pay where
 X:=Nat×FV×FV×FV
 args:=fun(b,f1,f2,f4)=>[.ptr 0 b 0]
 pre:=fun(b,f1,f2,f4)=>[.prd (.st b 212 [f1,f2,.oi 306 .i32 none,f4])]
 res:=fun _ _=>.v .nilIface
theorem GM:FB.ok Tryz.prog 155:=by
 refine aJ ⟨false,false⟩ (fun _=>[r203]) (fun _=>(.cons x203 .nil)) _ Tryz.func155 Tryz.ntmps155 rfl rfl ?_;intros;rename_i CM _ _ _ _ _ _ _ _ _ _ _ x _ _ _ _ hP;obtain⟨b,f1,f2,f4⟩:=x;have z0:CM .eq 0 1=false:=O6;have z1:CM .eq 0 2=false:=O6;cbv;repeat' first|exact O5|intro β;cbv|apply O4
 repeat (any_goals (simp only[z0,z1];try (cbv;repeat' first|exact O5|intro β;cbv|apply O4)))
 exact hP (fun _=>0) [(0,0)] _ _ rfl bM
def m155 (args:List SV):SM Pay (FB.X×List Nat):=match args with
 |[.ptr h b _]=>.rdC h fun c=>match c with
  |.prd (.st _ _ [f1,f2,_,f4])=>.ret ((b,f1,f2,f4),[h])|_=>.fail
 |_=>.fail
theorem NW:cI 155:=⟨_,Tryz.func155,rfl,by decide⟩
def OF:aN:=⟨155,0,false,FB.app m155,FB.app_ok GM m155,fun _ args base β β'=>rfl⟩
end Go.Sx
