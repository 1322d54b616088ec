import Derived.Test.YtjikgjdicpggkaaGreatX12
set_option autoImplicit true
set_option relaxedAutoImplicit true
set_option linter.all false
set_option maxRecDepth 100000
set_option maxHeartbeats 4000000
namespace Go.Sx
open Go Go.Proofs
structure RF where
 b:Nat
 id:Int
 term:Int
 vote:Int
 lb:Nat
 ms:Int
 vb:Nat
 pb:Nat
 wb:Nat
 mi:Int
 lead:Int
 cq:Bool
 pv:Bool
 ht:Int
 et:Int
 rt:Int
 nf:Bool
 sd:Bool
 ob:Nat
 nx:Int
def rV (x:RF) (o:LL):List SV:=[.hv 1 (.map (some x.vb)),.v (.map none),.bl false,EX 3 o,.v (.map none),.hv 2 (.map (some x.pb))]
def DT (x:RF) (trk:List SV) (lf:Bool) (tick step:SV) (zz:SV):C:=.raw true x.b 264 ([.i .u64 x.id,.i .u64 x.term,.i .u64 x.vote,.v (.slice none 0 0),.ptr 4 x.lb 0,.i .u64 x.ms,.i .u64 18446744073709551615]++trk++
 [.hv 5 (.map (some x.wb)),.i .i64 x.mi,.i .u64 18446744073709551615,.i .u64 0,.bl lf,.v (.slice none 0 0),.v (.slice none 0 0),.i .u64 x.lead,.i .u64 0,.i .u64 0,.bl false,.i .u64 0,.ptr 6 x.ob 0,.i .i64 0,.i .i64 0,.bl x.cq,.bl x.pv,.i .i64 x.ht,.i .i64 x.et,.i .i64 x.rt,.bl x.nf,.bl x.sd,tick,step,.v (.slice none 0 0),zz,.i .i64 x.nx])
def LLOK (L:List Int) (o:LL):Prop:=match o with
 |none=>L=[]|some (_,l)=>l=L
theorem s226 {x:RF} {V L:List Int} {P':MQ} {o:LL} {t0 t1 t2 t3 t4 t5 tk st:Value} {zn zb zo zl zc:Nat} {C4 C5 C6 C7 C8 C9:C} {K:SV→List C→Prop} (hT:TrkOK V L P') (ho:LLOK L o) (hV9:V.length≤12) (hL4:L.length≤12)
  (hKK:∀(lf:Bool) (P2:MQ) (cb nv nl:Nat),TrkOK V L P2→nv=V.length→nl=L.length→K (.ptr 10 cb 0) [DT x (rV x o) lf (.v tk) (.v st) (.sl 7 zn zb zo zl zc),.prd (.mp x.vb (.set V) none),.prd (.mp x.pb (.ptrs 410 P2) none),BT o,C4,C5,C6,C7,C8,C9,.prd (.st cb 229 (sP (nv,srtI V) (nl,srtI L) (0,[]) (0,[]) (some false)))]) (F:HProp):
  inS Tryz.prog F 226 [.ptr 0 x.b 0,.agg [.hv 1 (.map (some x.vb)),.v (.map none),.bl false,EX 3 o,.v (.map none)],.hv 2 (.map (some x.pb))]
   [DT x [.v t0,.v t1,.v t2,.v t3,.v t4,.v t5] false (.v tk) (.v st) (.sl 7 zn zb zo zl zc),.prd (.mp x.vb (.set V) none),.prd (.mp x.pb (.ptrs 410 P') none),BT o,C4,C5,C6,C7,C8,C9] K:=by
 obtain⟨b,id,term,vote,lb,ms,vb,pb,wb,mi,lead,cq,pv,ht,et,rt,nf,sd,ob,nx⟩:=x;refine aF ⟨false,false⟩ (fun TX=>[r329 TX]) (fun _=>(.cons x329 .nil)) Tryz.func226 Tryz.ntmps226 rfl rfl ?_;intros;rename_i op hop _ _ _ _ _ _ _ _ _ _ _ _ _ _ _ _ _ _ _ hE _ _ TX hTX _ _ _ _ CM _ _ _ _ _ _ _ hU hI hL _ _ hsat hP;obtain⟨tz,tls,tt,to,apx⟩:=TX;have hap:∀{α β:Type} (f:α→β) (x:α),apx f x=f x:=fun f x=>congrArg (fun t:TF=>t.ap f x) hTX;have oV:BJ V (apx List.length V) (apx srtI V):=⟨by rw[hap],by rw[hap];omega,by rw[hap]⟩;have oL:BJ L (apx List.length L) (apx srtI L):=⟨by rw[hap],by rw[hap];omega,by rw[hap]⟩;have c0:CM .ne 0 2=true:=O6;have c1:CM .eq 0 2=false:=O6;have c2:CM .lt 0 0=false:=O6;have hP':=hT;have eV:apx srtI V=srtI V:=by rw[hap]
 have eL:apx srtI L=srtI L:=by rw[hap]
 rcases o with _|⟨c,l⟩
 ·change L=[] at ho;subst ho;have nlp:0=([]:List Int).length:=rfl;have eS:srtI []=[]:=by simp[srtI]
  rw[eS] at hKK;cbv;repeat' first|exact O5|intro β;cbv|apply O4
  refine inl @hI Tryz.func279 Tryz.ntmps279 rfl rfl ?_;cbv;repeat' first|exact O5|intro β;cbv|apply O4
  ·rename_i l1 blk cs l2 hPe y1;change P'=l1++(id,blk,some cs)::l2 at hPe;obtain⟨u,hu⟩:=hP'.get hPe;generalize decide (id∈([]:List Int))=lf at hu;have hE:=bN pb 410 l1 l2 id blk cs cs none rfl;rw[←hPe] at hE;have hE2:eF [.prd (.mp pb (.ptrs 410 (op l1 id blk l2)) none),.raw true blk 410 cs] (.prd (.mp pb (.ptrs 410 P') none)):=by rw[hop];exact hE
   clear hPe hE;subst hu;cbv;repeat' first|exact O5|intro β;cbv|apply O4
   cases lf
   ·cbv;repeat' first|exact O5|intro β;cbv|apply O4
    repeat (any_goals (simp only[c0,c1,c2,eV,eL];try (cbv;repeat' first|exact O5|intro β;cbv|apply O4)))
    refine hP [(0,0),(1,0),(2,25),(3,0),(4,0),(5,0),(6,0),(7,0),(8,0),(9,0),(20,1)] _ _ _ _ ?_ rfl ?_ (hKK false P' ?c11 (apx List.length V) 0 hT (by rw[hap]) nlp)
    ·rfl
    ·exact(by cbv;repeat' first|exact lg|apply O4|exact hE2|(simp;done))
   ·cbv;repeat' first|exact O5|intro β;cbv|apply O4
    repeat (any_goals (simp only[c0,c1,c2,eV,eL];try (cbv;repeat' first|exact O5|intro β;cbv|apply O4)))
    refine hP [(0,0),(1,0),(2,25),(3,0),(4,0),(5,0),(6,0),(7,0),(8,0),(9,0),(20,1)] _ _ _ _ ?_ rfl ?_ (hKK true P' ?c12 (apx List.length V) 0 hT (by rw[hap]) nlp)
    ·rfl
    ·exact(by cbv;repeat' first|exact lg|apply O4|exact hE2|(simp;done))
  ·exact(hP'.noOpen (by assumption)).elim
  ·repeat (any_goals (simp only[c0,c1,c2,eV,eL];try (cbv;repeat' first|exact O5|intro β;cbv|apply O4)))
   refine hP [(0,0),(1,0),(2,0),(3,0),(4,0),(5,0),(6,0),(7,0),(8,0),(9,0),(20,1)] _ _ _ _ ?_ rfl ?_ (hKK false P' ?c13 (apx List.length V) 0 hT (by rw[hap]) nlp)
   ·rfl
   ·exact aP
 ·change l=L at ho;subst ho;have nlp:apx List.length l=l.length:=by rw[hap]
  cbv;repeat' first|exact O5|intro β;cbv|apply O4
  refine inl @hI Tryz.func279 Tryz.ntmps279 rfl rfl ?_;cbv;repeat' first|exact O5|intro β;cbv|apply O4
  ·rename_i l1 blk cs l2 hPe y1;change P'=l1++(id,blk,some cs)::l2 at hPe;obtain⟨u,hu⟩:=hP'.get hPe;generalize decide (id∈l)=lf at hu;have hE:=bN pb 410 l1 l2 id blk cs cs none rfl;rw[←hPe] at hE;have hE2:eF [.prd (.mp pb (.ptrs 410 (op l1 id blk l2)) none),.raw true blk 410 cs] (.prd (.mp pb (.ptrs 410 P') none)):=by rw[hop];exact hE
   clear hPe hE;subst hu;cbv;repeat' first|exact O5|intro β;cbv|apply O4
   cases lf
   ·cbv;repeat' first|exact O5|intro β;cbv|apply O4
    repeat (any_goals (simp only[c0,c1,c2,eV,eL];try (cbv;repeat' first|exact O5|intro β;cbv|apply O4)))
    refine hP [(0,0),(1,0),(2,25),(3,0),(4,0),(5,0),(6,0),(7,0),(8,0),(9,0),(20,1)] _ _ _ _ ?_ rfl ?_ (hKK false P' ?c21 (apx List.length V) (apx List.length l) hT (by rw[hap]) nlp)
    ·rfl
    ·exact(by cbv;repeat' first|exact lg|apply O4|exact hE2|(simp;done))
   ·cbv;repeat' first|exact O5|intro β;cbv|apply O4
    repeat (any_goals (simp only[c0,c1,c2,eV,eL];try (cbv;repeat' first|exact O5|intro β;cbv|apply O4)))
    refine hP [(0,0),(1,0),(2,25),(3,0),(4,0),(5,0),(6,0),(7,0),(8,0),(9,0),(20,1)] _ _ _ _ ?_ rfl ?_ (hKK true P' ?c22 (apx List.length V) (apx List.length l) hT (by rw[hap]) nlp)
    ·rfl
    ·exact(by cbv;repeat' first|exact lg|apply O4|exact hE2|(simp;done))
  ·exact(hP'.noOpen (by assumption)).elim
  ·repeat (any_goals (simp only[c0,c1,c2,eV,eL];try (cbv;repeat' first|exact O5|intro β;cbv|apply O4)))
   refine hP [(0,0),(1,0),(2,0),(3,0),(4,0),(5,0),(6,0),(7,0),(8,0),(9,0),(20,1)] _ _ _ _ ?_ rfl ?_ (hKK false P' ?c23 (apx List.length V) (apx List.length l) hT (by rw[hap]) nlp)
   ·rfl
   ·exact aP
end Go.Sx
