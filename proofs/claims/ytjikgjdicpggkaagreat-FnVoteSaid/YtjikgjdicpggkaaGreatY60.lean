import Derived.Test.YtjikgjdicpggkaaGreatX17
import Derived.Test.YtjikgjdicpggkaaGreatY48
set_option autoImplicit true
set_option relaxedAutoImplicit true
set_option linter.all false
set_option maxRecDepth 100000
set_option maxHeartbeats 4000000
namespace Go.Sx
open Go Go.Proofs
def freshB (le:Int×Int) (i t:Int):Bool:=decide (le.2<t)||(t==le.2&&decide (le.1≤i))
theorem s62 {x:NDV} {sp:Bool} {fl:List FV} {es:List EN} {i t:Int} {K:SV→List C→Prop} (hW:∀k,k<5→(x.W k).oneCell'=true) (hfl:fl=entR es) (hes:es.length=x.n) (hn:x.n≤2147483647)
  (hQ:K (.bl (freshB (dU x.ix x.it es) i t)) [.prd (.sl sp x.nn x.b x.off x.cap (.sl 81 4 x.n fl))]) (F:HProp):
  inS Tryz.prog F 62 [.agg (x.l 0),.i .u64 i,.i .u64 t] [.prd (.sl sp x.nn x.b x.off x.cap (.sl 81 4 x.n fl))] K:=by
 have hB:=fun K' F' u=>s49 (x:=x) (sp:=sp) (fl:=fl) (es:=es) (K:=K') hW hfl hes hn u F';obtain⟨id,ld0,tt,v,c,data,ix,it,W,nn,b,off,n,cap⟩:=x;change∀k,k<5→(W k).oneCell'=true at hW;dsimp only at hQ hB;generalize dU ix it es=le at hQ hB;obtain⟨li,lt⟩:=le;dsimp only at hB;refine aF ⟨false,false⟩ (fun _=>[]) (fun _=>.nil) Tryz.func62 Tryz.ntmps62 rfl rfl ?_;intros;rename_i CM hC _ _ _ _ _ _ _ _ _ _ hN _ hP;cbv;repeat' first|exact O5|intro β;cbv|apply O4
 all_goals first|exact hW _ (by decide)|skip
 refine aD hN [0] (by decide) rfl ?_ ?_ (fun F1=>hB _ F1 ?_)
 ·rfl
 ·exact⟨rfl,trivial⟩
 cbv;repeat' first|exact O5|intro β;cbv|apply O4
 rcases t1:CM .lt lt t with _|_
 rotate_left
 ·have e:freshB (li,lt) i t=true:=by rw[hC] at t1;have h9:lt<t:=(by simpa [cmStd] using t1);simp[freshB,h9]
  rw[e] at hQ
  repeat (any_goals (simp only[t1];try (cbv;repeat' first|exact O5|intro β;cbv|apply O4)))
  refine hP [(0,0)] _ _ _ _ ?_ rfl ?_ hQ
  ·rfl
  ·exact aP
 repeat (any_goals (simp only[t1];try (cbv;repeat' first|exact O5|intro β;cbv|apply O4)))
 have g1:¬lt<t:=by rw[hC] at t1;simpa [cmStd] using t1
 rcases t2:CM .eq t lt with _|_
 ·have e:freshB (li,lt) i t=false:=by rw[hC] at t2;have h9:¬t=lt:=(by simpa [cmStd] using t2);simp[freshB,h9,g1]
  rw[e] at hQ
  repeat (any_goals (simp only[t1,t2];try (cbv;repeat' first|exact O5|intro β;cbv|apply O4)))
  refine hP [(0,0)] _ _ _ _ ?_ rfl ?_ hQ
  ·rfl
  ·exact aP
 repeat (any_goals (simp only[t1,t2];try (cbv;repeat' first|exact O5|intro β;cbv|apply O4)))
 have g2:t=lt:=by rw[hC] at t2;simpa [cmStd] using t2
 rcases t3:CM .le li i with _|_
 ·have e:freshB (li,lt) i t=false:=by rw[hC] at t3;have h9:¬li≤i:=(by simpa [cmStd] using t3);simp[freshB,h9,g1]
  rw[e] at hQ
  repeat (any_goals (simp only[t3];try (cbv;repeat' first|exact O5|intro β;cbv|apply O4)))
  refine hP [(0,0)] _ _ _ _ ?_ rfl ?_ hQ
  ·rfl
  ·exact aP
 ·have e:freshB (li,lt) i t=true:=by rw[hC] at t3;have h9:li≤i:=(by simpa [cmStd] using t3);simp[freshB,h9,g2]
  rw[e] at hQ
  repeat (any_goals (simp only[t3];try (cbv;repeat' first|exact O5|intro β;cbv|apply O4)))
  refine hP [(0,0)] _ _ _ _ ?_ rfl ?_ hQ
  ·rfl
  ·exact aP
def votesB (x:NDV) (es:List EN) (m:tT):Bool:=((if x.t<m.tm then 0 else x.v)==0||(if x.t<m.tm then 0 else x.v)==m.fr)&&freshB (dU x.ix x.it es) m.ix m.lt
def NDV.votes (x:NDV) (es:List EN) (m:tT):NDV:={x with ld:=0,t:=if x.t<m.tm then m.tm else x.t,v:=match votesB x es m with
 |true=>m.fr
 |false=>if x.t<m.tm then 0 else x.v}
theorem s27 {x:NDV} {sp:Bool} {fl:List FV} {es:List EN} {m:tT} {sx:ByteArray} {K:SV→List C→Prop} (hW:∀k,k<5→(x.W k).oneCell'=true) (hfl:fl=entR es) (hes:es.length=x.n) (hn:x.n≤2147483647)
  (hQ:K (.tup [.agg ((x.votes es m).l 0),.bl (votesB x es m)]) [.prd (.sl sp x.nn x.b x.off x.cap (.sl 81 4 x.n fl))]) (F:HProp):
  inS Tryz.prog F 27 [.agg (x.l 0),m.arg sx] [.prd (.sl sp x.nn x.b x.off x.cap (.sl 81 4 x.n fl))] K:=by
 obtain⟨id,ld0,tt,v,c,data,ix,it,W,nn,b,off,n,cap⟩:=x;obtain⟨k,to',fr,tm,lt,mix,cm⟩:=m;change∀k,k<5→(W k).oneCell'=true at hW;change es.length=n at hes;change n≤2147483647 at hn;obtain⟨v1,hv1⟩:∃y:Int,y=if tt<tm then 0 else v:=⟨_,rfl⟩
 obtain⟨t1,ht1⟩:∃y:Int,y=if tt<tm then tm else tt:=⟨_,rfl⟩
 have hB51:=fun(K':SV→List C→Prop) F' u=>s51 (x:=⟨id,ld0,tt,v,c,data,ix,it,W,nn,b,off,n,cap⟩) (y:=⟨id,0,t1,v1,c,data,ix,it,W,nn,b,off,n,cap⟩) (sp:=sp) (fl:=fl) (tm:=tm) (ld:=0) (K:=K') hW (by dsimp only;rw[hv1,ht1]) u F';have hB62:=fun(K':SV→List C→Prop) F' u=>s62 (x:=⟨id,0,t1,v1,c,data,ix,it,W,nn,b,off,n,cap⟩) (sp:=sp) (fl:=fl) (es:=es) (i:=mix) (t:=lt) (K:=K') hW hfl hes hn u F';dsimp only at hB51 hB62;unfold NDV.votes votesB at hQ;dsimp only at hQ;rw[←hv1,←ht1] at hQ;obtain⟨q,hq⟩:∃q,q=freshB (dU ix it es) mix lt:=⟨_,rfl⟩;rw[←hq] at hQ hB62;clear hv1 ht1 hq;refine aF ⟨false,false⟩ (fun _=>[]) (fun _=>.nil) Tryz.func27 Tryz.ntmps27 rfl rfl ?_;intros;rename_i CM hC _ _ _ _ _ _ _ _ _ _ hN _ hP;cbv;repeat' first|exact O5|intro β;cbv|apply O4
 all_goals first|exact hW _ (by decide)|skip
 refine aD hN [0] (by decide) rfl ?_ ?_ (fun F1=>hB51 _ F1 ?_)
 ·rfl
 ·exact⟨rfl,trivial⟩
 cbv;repeat' first|exact O5|intro β;cbv|apply O4
 all_goals first|exact hW _ (by decide)|skip
 rcases a1:CM .ne v1 0 with _|_
 ·have g1:v1=0:=by rw[hC] at a1;simpa [cmStd] using a1
  repeat (any_goals (simp only[a1];try (cbv;repeat' first|exact O5|intro β;cbv|apply O4)))
  refine aD hN [0] (by decide) rfl ?_ ?_ (fun F1=>hB62 _ F1 ?_)
  ·rfl
  ·exact⟨rfl,trivial⟩
  subst g1;cases q with
  |true=>
   cbv;repeat' first|exact O5|intro β;cbv|apply O4
   all_goals first|exact hW _ (by decide)|skip
   refine hP [(0,0)] _ _ _ _ ?_ rfl ?_ hQ
   ·rfl
   ·exact aP
  |false=>
   cbv;repeat' first|exact O5|intro β;cbv|apply O4
   all_goals first|exact hW _ (by decide)|skip
   refine hP [(0,0)] _ _ _ _ ?_ rfl ?_ hQ
   ·rfl
   ·exact aP
 ·have g1:v1≠0:=by rw[hC] at a1;simpa [cmStd] using a1
  have e1:(v1==0)=false:=by simp[g1]
  repeat (any_goals (simp only[a1];try (cbv;repeat' first|exact O5|intro β;cbv|apply O4)))
  rcases a2:CM .ne v1 fr with _|_
  ·have g2:v1=fr:=by rw[hC] at a2;simpa [cmStd] using a2
   have e2:(v1==fr)=true:=by simp[g2]
   rw[e1,e2] at hQ
   repeat (any_goals (simp only[a2];try (cbv;repeat' first|exact O5|intro β;cbv|apply O4)))
   refine aD hN [0] (by decide) rfl ?_ ?_ (fun F1=>hB62 _ F1 ?_)
   ·rfl
   ·exact⟨rfl,trivial⟩
   cases q with
   |true=>
    cbv;repeat' first|exact O5|intro β;cbv|apply O4
    all_goals first|exact hW _ (by decide)|skip
    refine hP [(0,0)] _ _ _ _ ?_ rfl ?_ hQ
    ·rfl
    ·exact aP
   |false=>
    cbv;repeat' first|exact O5|intro β;cbv|apply O4
    all_goals first|exact hW _ (by decide)|skip
    refine hP [(0,0)] _ _ _ _ ?_ rfl ?_ hQ
    ·rfl
    ·exact aP
  ·have g2:v1≠fr:=by rw[hC] at a2;simpa [cmStd] using a2
   have e2:(v1==fr)=false:=by simp[g2]
   rw[e1,e2] at hQ
   repeat (any_goals (simp only[a2];try (cbv;repeat' first|exact O5|intro β;cbv|apply O4)))
   all_goals first|exact hW _ (by decide)|skip
   refine hP [(0,0)] _ _ _ _ ?_ rfl ?_ hQ
   ·rfl
   ·exact aP
end Go.Sx
