import Derived.Test.YtjikgjdicpggkaaGreatX22
set_option autoImplicit true
set_option relaxedAutoImplicit true
set_option linter.all false
set_option maxRecDepth 100000
set_option maxHeartbeats 4000000
namespace Go.Sx
open Go Go.Proofs
theorem BD {x:RQ} {g:LGF} {s:STO} {r:RN} {h1 h2 w1:Value} {w2:Value} {sy:Bool} {mn mb mo mc m cn cb co nsb nhb:Nat} {rl:List FV} {ft:Int} {fa fb fc:FV} {q0 q2 q3 q4 q5 q6 q7 q8 q9 q10 q11 q12 q13:FV} {to:Int} {K:SV→List C→Prop} (htm:1≤x.tm) (hpz:g.pz=false)
  (hQ:K (.tup []) (aY x (.v (.slice none 0 0)) (.v (.slice none 0 0)) g {s with hs:=.v h1,sn:=.v h2}++(RN.mk (r.b) (nsb) (nhb) (x.ld) (x.st) (x.tm) (x.vo) (g.co)).cs x.b (.v (.slice none 0 0)))) (F:HProp):
  inS Tryz.prog F 202 [.ptr 4 r.b 0,.agg [.ptr 7 nsb 0,.ptr 8 nhb 0,.v (.slice none 0 0),.v (.slice none 0 0),.v (.pointer none),.v (.slice none 0 0),.v w2,.bl sy]] (aY x (.v w1) (.v (.slice none 0 0)) g {s with hs:=.v h1,sn:=.v h2}++r.cs x.b (.v (.slice none 0 0))++[.raw true nsb 166 [.i .u64 x.ld,.i .u64 x.st],.prd (.st nhb 226 (oN x.tm x.vo g.co))]) K:=by
 obtain⟨b,lb,id,tm,vo,st,ld,tg,pn,un,Y⟩:=x;obtain⟨off,cm,ai,ad,mx,sz,pz⟩:=g;obtain⟨sb,hs,sn',nn,eb,ro,cap,n,k0,k1,k2,k3,k4,k5,sp,t0,i0,f3,f4,es⟩:=s;obtain⟨rb,ssb,hb,sl,ss,ht,hv,hc⟩:=r;change 1≤tm at htm;change pz=false at hpz;subst hpz;refine aF ⟨true,true⟩ (fun _=>[fH,fL,fQ,fZ,rD,jD,lY,nH]) (fun _=>(.cons fG (.cons fE (.cons fP (.cons gJ (.cons rM (.cons jV (.cons lZ (.cons nU .nil))))))))) Tryz.func202 Tryz.ntmps202 rfl rfl ?_;intros;rename_i CM _ _ _ _ _ _ _ hU hI _ _ _ _ hP;have z0:CM .eq tm 0=false:=O6;have z1:CM .ne 0 0=false:=O6;have z2:CM .lt 0 0=false:=O6;have z4:CM .lt 0 (Int.ofNat 1)=true:=O6;have z5:CM .lt 1 (Int.ofNat 1)=false:=O6;have z6:CM .le 0 0=true:=O6;have z8:CM .eq 0 0=true:=O6;cbv;repeat' first|exact O5|intro β;cbv|apply O4
 repeat (first|(refine inl @hI Tryz.func152 Tryz.ntmps152 rfl rfl ?_;cbv;repeat' first|exact O5|intro β;cbv|apply O4)|(refine inl @hI Tryz.func207 Tryz.ntmps207 rfl rfl ?_;cbv;repeat' first|exact O5|intro β;cbv|apply O4)|(refine inl @hI Tryz.func196 Tryz.ntmps196 rfl rfl ?_;cbv;repeat' first|exact O5|intro β;cbv|apply O4))
 repeat (any_goals (simp only[z0,z1,z2,z6,z8];try (cbv;repeat' first|exact O5|intro β;cbv|apply O4)))
 repeat (first|(refine inl @hI Tryz.func152 Tryz.ntmps152 rfl rfl ?_;cbv;repeat' first|exact O5|intro β;cbv|apply O4)|(refine inl @hI Tryz.func207 Tryz.ntmps207 rfl rfl ?_;cbv;repeat' first|exact O5|intro β;cbv|apply O4)|(refine inl @hI Tryz.func196 Tryz.ntmps196 rfl rfl ?_;cbv;repeat' first|exact O5|intro β;cbv|apply O4))
 repeat (any_goals (simp only[z0,z1,z2,z6,z8];try (cbv;repeat' first|exact O5|intro β;cbv|apply O4)))
 refine hU 1 (by decide+kernel) ?_;cbv;repeat' first|exact O5|intro β;cbv|apply O4
 repeat (any_goals (simp only[z0,z1,z2,z6,z8];try (cbv;repeat' first|exact O5|intro β;cbv|apply O4)))
 repeat (first|(refine inl @hI Tryz.func251 Tryz.ntmps251 rfl rfl ?_;cbv;repeat' first|exact O5|intro β;cbv|apply O4)|(refine inl @hI Tryz.func306 Tryz.ntmps306 rfl rfl ?_;cbv;repeat' first|exact O5|intro β;cbv|apply O4)|(refine inl @hI Tryz.func154 Tryz.ntmps154 rfl rfl ?_;cbv;repeat' first|exact O5|intro β;cbv|apply O4)|(refine inl @hI Tryz.func120 Tryz.ntmps120 rfl rfl ?_;cbv;repeat' first|exact O5|intro β;cbv|apply O4)|(refine inl @hI Tryz.func121 Tryz.ntmps121 rfl rfl ?_;cbv;repeat' first|exact O5|intro β;cbv|apply O4)|(refine inl @hI Tryz.func253 Tryz.ntmps253 rfl rfl ?_;cbv;repeat' first|exact O5|intro β;cbv|apply O4)|(refine inl @hI Tryz.func249 Tryz.ntmps249 rfl rfl ?_;cbv;repeat' first|exact O5|intro β;cbv|apply O4))
 repeat (any_goals (simp only[z0,z1,z2,z6,z8];try (cbv;repeat' first|exact O5|intro β;cbv|apply O4)))
 repeat (first|(refine inl @hI Tryz.func255 Tryz.ntmps255 rfl rfl ?_;cbv;repeat' first|exact O5|intro β;cbv|apply O4)|(refine inl @hI Tryz.func307 Tryz.ntmps307 rfl rfl ?_;cbv;repeat' first|exact O5|intro β;cbv|apply O4))
 repeat (any_goals (simp only[z0,z1,z2,z6,z8];try (cbv;repeat' first|exact O5|intro β;cbv|apply O4)))
 refine hP [(0,0),(1,0),(2,0),(3,0),(4,0),(7,0),(8,0)] _ _ _ _ ?_ rfl ?_ hQ
 ·rfl
 ·exact(by cbv;repeat' first|exact lg|apply O4|exact rfl|(simp;done))
end Go.Sx
