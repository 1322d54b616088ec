import Derived.Test.YtjikgjdicpggkaaGreatX20
set_option autoImplicit true
set_option relaxedAutoImplicit true
set_option linter.all false
set_option maxRecDepth 100000
set_option maxHeartbeats 4000000
namespace Go.Sx
open Go Go.Proofs
theorem B5 {s:STO} {h1 h2:Value} {es:List EN} {el:List FV} {m:Nat} {K:SV→List C→Prop} (h0:0≤s.i0) (hi:s.i0≤1099511627776) (hes:s.es=entPs es) (hm:es.length=m) (hn:s.n=1+m) (hk:∀e∈es,e.k=0) (hm2:m≤100) (hens:EnsOK (entPs es) m) (hel:el=entR es)
  (hQ:∀(d1 d2 d3:Int) (n2 b2 o2 c2:Nat),K (.sl 2 n2 b2 o2 m c2) [STO.raw {s with hs:=.v h1,sn:=.v h2,c1:=d1,c2:=d2,c3:=d3} 1,s.row,.prd (.sl true n2 b2 o2 c2 (.sl 81 4 m el))]) (F:HProp):
  inS Tryz.prog F 123 [.ptr 0 s.b 0] [STO.raw {s with hs:=.v h1,sn:=.v h2} 1,s.row] K:=by
 obtain⟨sb,hs,sn',nn,eb,ro,cap,n,k0,k1,k2,k3,k4,k5,sp,t0,i0,f3,f4,fs⟩:=s;change 0≤i0 at h0;change i0≤1099511627776 at hi;change fs=entPs es at hes;change n=1+m at hn;refine aF ⟨false,false⟩ (fun TX=>[fZ,r216,wA TX]) (fun _=>(.cons gJ (.cons x216 (.cons wY .nil)))) Tryz.func123 Tryz.ntmps123 rfl rfl ?_;intros;rename_i df hdf _ _ _ _ _ _ ns hns _ _ NF hNF _ _ _ _ TX hTX _ _ AR hA CM _ _ _ _ _ _ _ _ hI _ _ _ _ hP;obtain⟨tz,tls,tt,to0,apx⟩:=TX;have hap:∀{α β:Type} (f:α→β) (x:α),apx f x=f x:=fun f x=>congrArg (fun t:TF=>t.ap f x) hTX;have o149:AF m fs (apx kD fs):=⟨es,hes,hm,hk,by rw[hap,hes];exact kO es hk,by omega⟩;have eE:apx kD fs=el:=by rw[hap,hes,hel];exact kO es hk
 have o216:NG fs m 18446744073709551615:=⟨by rw[hes];exact hens,hm2,by omega,by omega⟩;have hF:∀x l,NF (x::l) 0=x:=by intro x l;rw[hNF];rfl
 obtain⟨fi,hfi⟩:∃fi:Int,fi=i0+1:=⟨_,rfl⟩;replace hfi:fi=i0+1:=hfi;obtain⟨j,hj⟩:∃j:Int,j=i0+(n:Int):=⟨_,rfl⟩;replace hj:j=i0+(n:Int):=hj;obtain⟨la,hla⟩:∃la:Int,la=j-1:=⟨_,rfl⟩;replace hla:la=j-1:=hla;have a1:AR .add .u64 i0 1=fi:=O7;have a2:AR .conv .u64 (Int.ofNat n) 0=Int.ofNat n:=O7;have a3:AR .add .u64 i0 (Int.ofNat n)=j:=O7;have a4:AR .sub .u64 j 1=la:=O7;have a5:AR .add .u64 la 1=j:=O7;have b2:AR .sub .u64 fi i0=Int.ofNat 1:=O7;have b3:AR .sub .u64 j i0=Int.ofNat n:=O7;have b4:AR .conv .u64 18446744073709551615 0=18446744073709551615:=by rw[hA];rfl
 obtain⟨q1,hq1⟩:∃q,q=AR .add .i64 k1 1:=⟨_,rfl⟩;obtain⟨q2,hq2⟩:∃q,q=AR .add .i64 k2 1:=⟨_,rfl⟩;obtain⟨q3,hq3⟩:∃q,q=AR .add .i64 k3 1:=⟨_,rfl⟩;have g1:CM .le 0 0=true:=O6;have g2:CM .lt 0 (Int.ofNat n)=true:=O6;have c8:CM .le fi i0=false:=O6;have c9:CM .lt j j=false:=O6;rcases Nat.eq_zero_or_pos m with hz|hz
 ·have c1:CM .lt la fi=true:=O6;have hk0:=hQ q1 q2 k3 0 0 0 0;have hes0:es=[]:=List.length_eq_zero_iff.1 (by omega);subst hz;subst hes0;subst hel;cbv;repeat' first|exact O5|intro β;cbv|apply O4
  repeat (first|(refine inl @hI Tryz.func163 Tryz.ntmps163 rfl rfl ?_;cbv;repeat' first|exact O5|intro β;cbv|apply O4)|(refine inl @hI Tryz.func128 Tryz.ntmps128 rfl rfl ?_;cbv;repeat' first|exact O5|intro β;cbv|apply O4))
  repeat (any_goals (simp only[hF,g1,g2,a1,←hq1];try (cbv;repeat' first|exact O5|intro β;cbv|apply O4)))
  repeat (first|(refine inl @hI Tryz.func114 Tryz.ntmps114 rfl rfl ?_;cbv;repeat' first|exact O5|intro β;cbv|apply O4)|(refine inl @hI Tryz.func164 Tryz.ntmps164 rfl rfl ?_;cbv;repeat' first|exact O5|intro β;cbv|apply O4)|(refine inl @hI Tryz.func160 Tryz.ntmps160 rfl rfl ?_;cbv;repeat' first|exact O5|intro β;cbv|apply O4))
  repeat (any_goals (simp only[hF,g1,g2,a2,a3,a4,←hq2];try (cbv;repeat' first|exact O5|intro β;cbv|apply O4)))
  repeat (first|(refine inl @hI Tryz.func114 Tryz.ntmps114 rfl rfl ?_;cbv;repeat' first|exact O5|intro β;cbv|apply O4))
  repeat (any_goals (simp only[c1];try (cbv;repeat' first|exact O5|intro β;cbv|apply O4)))
  refine hP [(0,0),(1,0),(99,101)] _ _ _ _ ?_ rfl ?_ hk0
  ·rfl
  ·exact⟨⟨rfl,rfl,rfl,rfl⟩,rfl,gE 81 4 true,trivial⟩
 ·have c1:CM .lt la fi=false:=O6;have e1:CM .eq (Int.ofNat n) 1=false:=O6;have g3:CM .le (Int.ofNat 1) (Int.ofNat n)=true:=O6;have g4:CM .le (Int.ofNat n) (Int.ofNat n)=true:=O6;have g5:CM .le 0 (Int.ofNat 1)=true:=O6;have g6:CM .le 0 (Int.ofNat n)=true:=O6;have g7:CM .le 0 (Int.ofNat m)=true:=O6;have g8:CM .le (Int.ofNat 0) (Int.ofNat m)=true:=O6;have g9:CM .le (Int.ofNat m) (Int.ofNat m)=true:=O6;have r1:ns n 1=m:=by rw[hns];show n-1=m;omega
  have r2:df (.st 212 [.oi 22 .u64 (some t0),.oi 22 .u64 (some i0),f3,f4]::fs) 1 n 1=fs:=by rw[hdf];show ((_::fs).drop (1*1)).take ((n-1)*1)=_;rw[Nat.mul_one,Nat.mul_one,List.drop_succ_cons,List.drop_zero];apply List.take_of_length_le;rw[hes,entPs,List.length_map];omega
  have r3:ns m 0=m:=by rw[hns];rfl
  have r4:df fs 0 m 1=fs:=by rw[hdf];show (fs.drop (0*1)).take ((m-0)*1)=fs;rw[Nat.zero_mul,List.drop_zero,Nat.mul_one,Nat.sub_zero];apply List.take_of_length_le;rw[hes,entPs,List.length_map];omega
  have hk1:=hQ q1 q2 q3;cbv;repeat' first|exact O5|intro β;cbv|apply O4
  repeat (first|(refine inl @hI Tryz.func163 Tryz.ntmps163 rfl rfl ?_;cbv;repeat' first|exact O5|intro β;cbv|apply O4)|(refine inl @hI Tryz.func128 Tryz.ntmps128 rfl rfl ?_;cbv;repeat' first|exact O5|intro β;cbv|apply O4))
  repeat (any_goals (simp only[hF,g1,g2,a1,←hq1];try (cbv;repeat' first|exact O5|intro β;cbv|apply O4)))
  repeat (first|(refine inl @hI Tryz.func114 Tryz.ntmps114 rfl rfl ?_;cbv;repeat' first|exact O5|intro β;cbv|apply O4)|(refine inl @hI Tryz.func164 Tryz.ntmps164 rfl rfl ?_;cbv;repeat' first|exact O5|intro β;cbv|apply O4)|(refine inl @hI Tryz.func160 Tryz.ntmps160 rfl rfl ?_;cbv;repeat' first|exact O5|intro β;cbv|apply O4))
  repeat (any_goals (simp only[hF,g1,g2,a2,a3,a4,←hq2];try (cbv;repeat' first|exact O5|intro β;cbv|apply O4)))
  repeat (first|(refine inl @hI Tryz.func114 Tryz.ntmps114 rfl rfl ?_;cbv;repeat' first|exact O5|intro β;cbv|apply O4))
  repeat (any_goals (simp only[c1,a5];try (cbv;repeat' first|exact O5|intro β;cbv|apply O4)))
  refine inl @hI Tryz.func165 Tryz.ntmps165 rfl rfl ?_;cbv;repeat' first|exact O5|intro β;cbv|apply O4
  repeat (any_goals (simp only[hF,g1,g2,c8,←hq3];try (cbv;repeat' first|exact O5|intro β;cbv|apply O4)))
  refine inl @hI Tryz.func160 Tryz.ntmps160 rfl rfl ?_;cbv;repeat' first|exact O5|intro β;cbv|apply O4
  repeat (any_goals (simp only[hF,a2,a3,a4,a5,c9,e1,b2,b3,b4];try (cbv;repeat' first|exact O5|intro β;cbv|apply O4)))
  all_goals try assumption
  repeat (any_goals (simp only[r1,r2,r3,r4];try (cbv;repeat' first|exact O5|intro β;cbv|apply O4)))
  all_goals try assumption
  repeat (first|(refine inl @hI Tryz.func114 Tryz.ntmps114 rfl rfl ?_;cbv;repeat' first|exact O5|intro β;cbv|apply O4))
  repeat (any_goals (simp only[r1,eE];try (cbv;repeat' first|exact O5|intro β;cbv|apply O4)))
  all_goals try assumption
  refine hP [(0,0),(1,0),(16,0)] _ _ _ _ ?_ rfl ?_ (hk1 ?A1 ?A2 ?A3 ?A4)
  ·rfl
  ·exact(by cbv;repeat' first|exact lg|apply O4|exact rfl|(simp;done))
def bK (v:Value):Prop:=∃a b c d e:Nat,v=.slice (slA a b c) d e
def eP (nb:Nat) (W:Nat→Value) (rh sh rnb sb:Nat) (am:Int) (cf:Value):C:=.raw true nb 135 [.v (W 0),.v (W 1),.v (W 2),.v (W 3),.v (W 4),.v (W 5),.v (W 6),.v (W 7),.v (W 8),.v (W 9),.v (W 10),.v (W 11),.v (W 12),.v (W 13),.v (W 14),.v (W 15),.v (W 16),.v (W 17),.v (W 18),.v (W 19),
 .v (W 20),.v (W 21),.v (W 22),.v (W 23),.v (W 24),.v (W 25),.bl false,.ptr rh rnb 0,.ptr sh sb 0,.i .u64 am,.v cf]
structure SR where
 hh:Bool
 t:Int
 v:Int
 c:Int
 sy:Bool
def SR.l (q:SR) (w23 w24 w25 w26 w28:Value) (sent log:SV):List SV:=[.i .i64 0,.bl false,.i .i64 0,.i .u64 0,.i .u64 0,.i .u64 0,.i .u64 0,.i .u64 0,.i .u64 0,.v (.slice none 0 0),.v (.slice none 0 0),.v (.slice none 0 0),.v (.slice none 0 0),.bl false,
 .bl true,.bl q.hh,.i .u64 q.t,.i .u64 q.v,.i .u64 q.c,.v (.slice none 0 0),.v (.string ⟨#[]⟩),.i .u64 0,.i .u64 0,.v w23,.v w24,.v w25,.v w26,.bl false,.v w28,sent,.v (.slice none 0 0),.bl q.sy,log]
def SR.g (q:SR) (w23 w24 w25 w26 w28:Value) (sent log:SV):SV:=.agg (q.l w23 w24 w25 w26 w28 sent log)
def K4:List SV:=[.i .i64 0,.bl false,.i .i64 0,.i .u64 0,.i .u64 0,.i .u64 0,.i .u64 0,.i .u64 0,.i .u64 0,.v (.slice none 0 0),.v (.slice none 0 0),.v (.slice none 0 0),.v (.slice none 0 0),.bl false,
 .bl false,.bl false,.i .u64 0,.i .u64 0,.i .u64 0,.v (.slice none 0 0),.v (.string ⟨#[]⟩),.i .u64 0,.i .u64 0,.v (.slice none 0 0),.v (.slice none 0 0),.v (.slice none 0 0),.v (.slice none 0 0),.bl false,.v (.slice none 0 0),.v (.slice none 0 0),.v (.slice none 0 0),.bl false,.v (.slice none 0 0)]
end Go.Sx
