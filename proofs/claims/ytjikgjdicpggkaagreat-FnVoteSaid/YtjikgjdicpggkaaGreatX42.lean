import Derived.Test.YtjikgjdicpggkaaGreatX22
set_option autoImplicit true
set_option relaxedAutoImplicit true
set_option linter.all false
set_option maxRecDepth 100000
set_option maxHeartbeats 4000000
namespace Go.Sx
open Go Go.Proofs
theorem CY {x:RQ} {g:LGF} {s:STO} {r:RN} {h1 h2 w1:Value} {w2:Value} {sy:Bool} {mn mb mo mc m cn cb co nsb nhb:Nat} {rl:List FV} {ft:Int} {fa fb fc:FV} {q0 q2 q3 q4 q5 q6 q7 q8 q9 q10 q11 q12 q13:FV} {to:Int} {K:SV→List C→Prop} (htm:1≤x.tm) (hpz:g.pz=false)
  (hm1:1≤m) (hm2:m≤100) (hrl:EnsOK rl m) (hlast:nth rl (m-1)=.st 212 [fa,.oi 22 .u64 (some g.co),fb,fc]) (hsz:0≤g.sz) (hsz2:g.sz+20000≤g.mx) (hmx:g.mx<18446744073709551616)
  (hto:to≠x.id)
  (hQ:∀(z:Int) (b9 o9 c9 mb9:Nat),0≤z→z≤g.sz+14000→K (.tup []) (aY x (.v (.slice none 0 0)) (.v (.slice none 0 0)) {g with ai:=g.co,sz:=z} {s with hs:=.v h1,sn:=.v h2}++(RN.mk (r.b) (r.sb) (r.hb) (r.sl) (r.ss) (r.ht) (r.hv) (r.hc)).cs x.b (.sl 8 1 b9 o9 1 c9)++[.prd (.sl false (cn+1) cb co m (.sl 209 1 m rl)),.prd (.mo 176 1 b9 o9 c9 [some mb9]),.prd (.st mb9 269 [.oi 266 .i32 (some 22),.oi 22 .u64 (some x.id),.oi 22 .u64 (some 18446744073709551614),.oi 22 .u64 (some 0),.oi 22 .u64 none,.oi 22 .u64 none,.sl 209 1 m rl,.oi 22 .u64 none,.oi 22 .u64 none,.np,.ob 4 none,.oi 22 .u64 none,.bys 5 0 none,.sl 176 1 0 []])])) (F:HProp):
  inS Tryz.prog F 202 [.ptr 4 r.b 0,.agg [.v (.pointer none),.v (.pointer none),.v (.slice none 0 0),.v (.slice none 0 0),.v (.pointer none),.sl 7 (cn+1) cb co m m,.v w2,.bl sy]] (aY x (.v w1) (.sl 8 (mn+1) mb mo 1 mc) g {s with hs:=.v h1,sn:=.v h2}++r.cs x.b (.v (.slice none 0 0))++[.prd (.sl false (cn+1) cb co m (.sl 209 1 m rl)),.prd (.sl true (mn+1) mb mo mc (.sl 176 1 1 [.st 269 [q0,.oi 22 .u64 (some to),q2,q3,q4,q5,q6,q7,q8,q9,q10,q11,q12,q13]]))]) K:=by
 obtain⟨b,lb,id,tm,vo,st,ld,tg,pn,un,Y⟩:=x;obtain⟨off,cm,ai,ad,mx,sz,pz⟩:=g;obtain⟨sb,hs,sn',nn,eb,ro,cap,n,k0,k1,k2,k3,k4,k5,sp,t0,i0,f3,f4,es⟩:=s;obtain⟨rb,ssb,hb,sl,ss,ht,hv,hc⟩:=r;change 1≤tm at htm;change pz=false at hpz;subst hpz;change nth rl (m-1)=.st 212 [fa,.oi 22 .u64 (some cm),fb,fc] at hlast;change 0≤sz at hsz;change sz+20000≤mx at hsz2;change mx<18446744073709551616 at hmx;change to≠id at hto;refine aF ⟨true,true⟩ (fun _=>[fH,fL,fQ,fZ,rD,jD,lY,nH,qW]) (fun _=>(.cons fG (.cons fE (.cons fP (.cons gJ (.cons rM (.cons jV (.cons lZ (.cons nU (.cons qX .nil)))))))))) Tryz.func202 Tryz.ntmps202 rfl rfl ?_;intros;rename_i NF hNF _ _ mu hmu _ _ _ _ AR hA CM hC _ _ _ _ _ _ hU hI hL _ _ hsat hP;have z0:CM .eq tm 0=false:=O6;have z1:CM .ne 0 0=false:=O6;have z2:CM .lt 0 0=false:=O6;have z4:CM .lt 0 (Int.ofNat 1)=true:=O6;have z5:CM .lt 1 (Int.ofNat 1)=false:=O6;have z6:CM .le 0 0=true:=O6;have z8:CM .eq 0 0=true:=O6;have z7:CM .eq to id=false:=O6;have x1:AR .add .i64 0 1=1:=O7;have hF:∀x l,NF (x::l) 0=x:=by intro x l;rw[hNF];rfl
 rw[←hNF] at hlast;obtain⟨m1,hm1'⟩:∃m1,m1=m-1:=⟨_,rfl⟩;rw[←hm1'] at hlast;have o187:vT rl m:=⟨hrl,hm2⟩;have g0:CM .eq (Int.ofNat m) 0=false:=O6;have g1:CM .lt 0 (Int.ofNat m)=true:=O6;have g2:AR .sub .i64 (Int.ofNat m) 1=Int.ofNat m1:=O7;have g3:CM .le 0 (Int.ofNat m1)=true:=O6;have g4:CM .lt (Int.ofNat m1) (Int.ofNat m)=true:=O6;have g5:CM .lt cm cm=false:=O6;have g6:CM .lt (Int.ofNat m1) (Int.ofNat (mu m 1))=true:=by rw[hmu];show CM .lt (Int.ofNat m1) (Int.ofNat (m*1))=true;rw[Nat.mul_one];exact g4
 have g7:CM .le 1 1=true:=by rw[hC];rfl
 cbv;repeat' first|exact O5|intro β;cbv|apply O4|apply o187;done
 repeat (first|(refine inl @hI Tryz.func152 Tryz.ntmps152 rfl rfl ?_;cbv;repeat' first|exact O5|intro β;cbv|apply O4|apply o187;done)|(refine inl @hI Tryz.func207 Tryz.ntmps207 rfl rfl ?_;cbv;repeat' first|exact O5|intro β;cbv|apply O4|apply o187;done)|(refine inl @hI Tryz.func196 Tryz.ntmps196 rfl rfl ?_;cbv;repeat' first|exact O5|intro β;cbv|apply O4|apply o187;done))
 repeat (any_goals (simp only[z0,z1,z2,z6,z8,z4,hF,z7,x1,z5,g0,g1,g2,g3,g4,hlast];try (cbv;repeat' first|exact O5|intro β;cbv|apply O4|apply o187;done)))
 refine hU 2 (by decide+kernel) ?_;cbv;repeat' first|exact O5|intro β;cbv|apply O4|apply o187;done
 repeat (any_goals (simp only[z0,z1,z2,z6,z8,z4,hF,z7,x1,z5,g0,g1,g2,g3,g4,hlast];try (cbv;repeat' first|exact O5|intro β;cbv|apply O4|apply o187;done)))
 repeat (first|(refine inl @hI Tryz.func251 Tryz.ntmps251 rfl rfl ?_;cbv;repeat' first|exact O5|intro β;cbv|apply O4|apply o187;done)|(refine inl @hI Tryz.func306 Tryz.ntmps306 rfl rfl ?_;cbv;repeat' first|exact O5|intro β;cbv|apply O4|apply o187;done)|(refine inl @hI Tryz.func154 Tryz.ntmps154 rfl rfl ?_;cbv;repeat' first|exact O5|intro β;cbv|apply O4|apply o187;done)|(refine inl @hI Tryz.func120 Tryz.ntmps120 rfl rfl ?_;cbv;repeat' first|exact O5|intro β;cbv|apply O4|apply o187;done)|(refine inl @hI Tryz.func121 Tryz.ntmps121 rfl rfl ?_;cbv;repeat' first|exact O5|intro β;cbv|apply O4|apply o187;done)|(refine inl @hI Tryz.func253 Tryz.ntmps253 rfl rfl ?_;cbv;repeat' first|exact O5|intro β;cbv|apply O4|apply o187;done)|(refine inl @hI Tryz.func249 Tryz.ntmps249 rfl rfl ?_;cbv;repeat' first|exact O5|intro β;cbv|apply O4|apply o187;done))
 repeat (any_goals (simp only[z0,z1,z2,z6,z8,z4,hF,z7,x1,z5,g0,g1,g2,g3,g4,hlast];try (cbv;repeat' first|exact O5|intro β;cbv|apply O4|apply o187;done)))
 repeat (first|(refine inl @hI Tryz.func254 Tryz.ntmps254 rfl rfl ?_;cbv;repeat' first|exact O5|intro β;cbv|apply O4|apply o187;done))
 repeat (any_goals (simp only[z0,z1,z2,z6,z8,z4,hF,z7,x1,z5,g0,g1,g2,g3,g4,hlast];try (cbv;repeat' first|exact O5|intro β;cbv|apply O4|apply o187;done)))
 repeat (first|(refine inl @hI Tryz.func255 Tryz.ntmps255 rfl rfl ?_;cbv;repeat' first|exact O5|intro β;cbv|apply O4|apply o187;done)|(refine inl @hI Tryz.func307 Tryz.ntmps307 rfl rfl ?_;cbv;repeat' first|exact O5|intro β;cbv|apply O4|apply o187;done))
 repeat (any_goals (simp only[z0,z1,z2,z6,z8,z4,hF,z7,x1,z5,g0,g1,g2,g3,g4,hlast];try (cbv;repeat' first|exact O5|intro β;cbv|apply O4|apply o187;done)))
 all_goals try exact g4
 rename_i bq;have hb:bq 9 0≤14000:=β;obtain⟨z,hz⟩:∃z,z=AR .add .u64 sz (Int.ofNat (bq 9 0)):=⟨_,rfl⟩;have hz2:z=sz+(bq 9 0:Int):=by rw[hz,hA];simp only[arStd,IntKind.wrap_u64,Int.ofNat_eq_natCast];omega
 have y1:CM .le mx z=false:=O6;have hk:=fun a1 a2 a3 a4=>hQ z a1 a2 a3 a4 (by omega) (by show z≤sz+14000;omega);refine inl @hI Tryz.func256 Tryz.ntmps256 rfl rfl ?_;cbv;repeat' first|exact O5|intro β;cbv|apply O4|apply o187;done
 repeat (any_goals (simp only[g5,←hz,y1];try (cbv;repeat' first|exact O5|intro β;cbv|apply O4|apply o187;done)))
 refine hP [(0,0),(1,0),(2,0),(3,0),(4,0),(5,0),(6,0),(7,0),(37,0),(33,1)] _ _ _ _ ?_ rfl ?_ (hk ?A1 ?A2 ?A3 ?A4)
 ·rfl
 ·exact(by cbv;repeat' first|exact lg|apply O4|exact rfl|(simp;done))
end Go.Sx
