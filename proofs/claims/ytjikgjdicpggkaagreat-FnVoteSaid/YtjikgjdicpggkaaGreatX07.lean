import Derived.Test.YtjikgjdicpggkaaGreatX05
set_option autoImplicit true
set_option relaxedAutoImplicit true
set_option linter.all false
set_option maxRecDepth 100000
set_option maxHeartbeats 4000000
namespace Go.Sx
open Go Go.Proofs
theorem pset {m:List Int} {p q:Nat} (hp:p<m.length) (hq:q<m.length):((m.set p m[q]).set q m[p]).Perm m:=Sort.perm_set_set m p q hp hq
def PM (d0 d:Array Int):Prop:=d.size=13∧d.toList.Perm d0.toList
theorem PM.refl {d:Array Int} (h:d.size=13):PM d d:=⟨h,List.Perm.refl _⟩
theorem PM.swp {d0 d:Array Int} (h:PM d0 d) {i j:Nat} (hi:i<13) (hj:j<13):PM d0 (Sort.swp d i j):=by
 have h1:=h.1;refine⟨by rw[pT];exact h1,List.Perm.trans ?_ h.2⟩;have hi':i<d.toList.length:=by simpa using (by omega:i<d.size)
 have hj':j<d.toList.length:=by simpa using (by omega:j<d.size)
 have hi2:i<d.size:=by omega
 have hj2:j<d.size:=by omega
 have e:(Sort.swp d i j).toList=(d.toList.set i d.toList[j]).set j d.toList[i]:=by simp[Sort.swp,hi2,hj2]
 rw[e];exact pset hi' hj'
theorem kH {LP:Ex→St Pay→Prop} {e:Ex} {T:List SV} {H:List C} (f:(Nat→SV)→List SV) (h:∀js,LP e ⟨f js,H⟩) (ht:f (bE T)=T):LP e ⟨T,H⟩:=ht▸h _
theorem s379 {b off cap nn p:Nat} {d0:Array Int} {K:SV→List C→Prop} (hd0:d0.size=13) (hp:p≤12) (DL:Array Int→List Int) (hDL:DL=fun d=>d.toList)
  (hKK:∀(m:Nat) (d:Array Int) (r:Bool),m≤12→PM d0 d→K (.tup [.i .i64 (Int.ofNat m),.bl r]) [.prd (.mr 22 .u64 nn b off cap 13 (DL d))]) (F:HProp):
  inS Tryz.prog F 379 [.sl 0 nn b off 13 cap,.i .i64 0,.i .i64 13,.i .i64 (Int.ofNat p)] [.prd (.mr 22 .u64 nn b off cap 13 (DL d0))] K:=by
 refine aF ⟨false,false⟩ (fun TX=>[wQ TX]) (fun _=>(.cons xG .nil)) Tryz.func379 Tryz.ntmps379 rfl rfl ?_;intros;rename_i NI hNI _ _ _ _ _ _ TX hTX _ _ AR hA CM hC _ _ _ _ _ _ _ _ hL _ _ _ hP;obtain⟨tz,tl,tt,to,ap⟩:=TX;have hap:∀{α β:Type} (f:α→β) (x:α),ap f x=f x:=fun f x=>congrArg (fun t:TF=>t.ap f x) hTX;have hadd:∀i:Nat,i≤13→AR .add .i64 (Int.ofNat i) 1=Int.ofNat (i+1):=by intro i hi;rw[hA];exact fU (by omega)
 have hsub:∀i:Nat,i<13→AR .sub .i64 (Int.ofNat (i+1)) 1=Int.ofNat i:=by intro i hi;rw[hA];simp only[arStd,IntKind.wrap_i64,Int.ofNat_eq_natCast];omega
 have hlt:∀x y,OLt x y (ap sD (x,y)):=by intro x y;rw[hap];exact⟨rfl⟩
 have hsw:∀(d:Array Int) (i j:Nat),d.size=13→i<13→j<13→ap nP (ap nP (DL d,i,NI (DL d) j),j,NI (DL d) i)=DL (Sort.swp d i j):=by intro d i j h1 h2 h3;rw[hap,hap,hNI,hDL];exact qK d i j (by omega) (by omega)
 have hle:∀i j:Nat,i≤j→CM .le (Int.ofNat i) (Int.ofNat j)=true:=by intro i j h;rw[hC];simp only[cmStd,decide_eq_true_eq,Int.ofNat_eq_natCast];omega
 have hnle:∀i j:Nat,j<i→CM .le (Int.ofNat i) (Int.ofNat j)=false:=by intro i j h;rw[hC];simp only[cmStd,decide_eq_false_iff_not,Int.ofNat_eq_natCast];omega
 have hlt1:∀i j:Nat,i<j→CM .lt (Int.ofNat i) (Int.ofNat j)=true:=by intro i j h;rw[hC];simp only[cmStd,decide_eq_true_eq,Int.ofNat_eq_natCast];omega
 have hnlt:∀i j:Nat,j≤i→CM .lt (Int.ofNat i) (Int.ofNat j)=false:=by intro i j h;rw[hC];simp only[cmStd,decide_eq_false_iff_not,Int.ofNat_eq_natCast];omega
 have hge0:∀i:Nat,CM .le 0 (Int.ofNat i)=true:=by intro i;rw[hC];simp[cmStd]
 have h13:∀i:Nat,i<13→CM .lt (Int.ofNat i) 13=true:=by intro i h;rw[hC];simp only[cmStd,decide_eq_true_eq,Int.ofNat_eq_natCast];omega
 have a1:AR .add .i64 0 1=(Int.ofNat 1):=O7;have a2:AR .sub .i64 13 1=(Int.ofNat 12):=O7;have c1:CM .le 0 0=true:=O6;have c2:CM .lt 0 (Int.ofNat 13)=true:=O6;have c3:=hge0 p;have c4:=hlt1 p 13 (by omega);cbv;repeat' (first|(intro β;cbv)|((with_reducible refine And.intro ?_ ?_);focus (repeat' first|(with_reducible apply And.intro)|(with_reducible exact trivial)|(with_reducible exact rfl)|assumption|exact y6 (by assumption) (by decide+kernel)|exact y7 (by assumption) (by decide+kernel))))
 rw[hsw d0 0 p hd0 (by omega) (by omega),a1,a2];obtain⟨d1,hd1⟩:∃d1,d1=Sort.swp d0 0 p:=⟨_,rfl⟩;have Pd1:PM d0 d1:=by rw[hd1];exact(PM.refl hd0).swp (by omega) (by omega)
 rw[←hd1];refine hL _ {x:Nat//1≤x∧x≤13} (fun x j=>eO 168 j [(0,.sl 0 nn b off 13 cap),(1,.i .i64 0),(2,.i .i64 13),(3,.i .i64 (Int.ofNat p)),(8,.lit .i64 0),(9,.bl false),(10,.i .i64 (Int.ofNat x.1)),(11,.i .i64 (Int.ofNat 12))])
  (fun x=>[.prd (.mr 22 .u64 nn b off cap 13 (DL d1))]) (fun x=>13-x.1) ⟨1,by omega⟩ [(0,0)] _ _ (by decide+kernel) ⟨rfl,rfl,rfl,⟨rfl,trivial⟩⟩ ?_
 rintro⟨i,hi⟩ jsi LPi hsati hLPi hXi hRi;change 1≤i∧i≤13 at hi;have outi:∀jz:Nat→SV,LPi (.exit 0) ⟨eO 168 jz [(0,.sl 0 nn b off 13 cap),(1,.i .i64 0),(2,.i .i64 13),(3,.i .i64 (Int.ofNat p)),(8,.lit .i64 0),(9,.bl false),(10,.i .i64 (Int.ofNat i)),(11,.i .i64 (Int.ofNat 12))],[.prd (.mr 22 .u64 nn b off cap 13 (DL d1))]⟩:=by
  intro jz;apply hXi;cbv;repeat' (first|(intro β;cbv)|((with_reducible refine And.intro ?_ ?_);focus (repeat' first|(with_reducible apply And.intro)|(with_reducible exact trivial)|(with_reducible exact rfl)|assumption|exact y6 (by assumption) (by decide+kernel)|exact y7 (by assumption) (by decide+kernel))))
  refine hL _ {x:Nat//x≤12} (fun x j=>eO 168 j [(0,.sl 0 nn b off 13 cap),(1,.i .i64 0),(2,.i .i64 13),(3,.i .i64 (Int.ofNat p)),(8,.lit .i64 0),(9,.bl false),(10,.i .i64 (Int.ofNat i)),(11,.i .i64 (Int.ofNat x.1))])
   (fun x=>[.prd (.mr 22 .u64 nn b off cap 13 (DL d1))]) (fun x=>x.1) ⟨12,by omega⟩ [(0,0)] _ _ (by decide+kernel) ⟨rfl,rfl,rfl,⟨rfl,trivial⟩⟩ ?_
  rintro⟨j,hj⟩ jsj LPj hsatj hLPj hXj hRj;change j≤12 at hj;have outj:∀jz:Nat→SV,LPj (.exit 2) ⟨eO 168 jz [(0,.sl 0 nn b off 13 cap),(1,.i .i64 0),(2,.i .i64 13),(3,.i .i64 (Int.ofNat p)),(8,.lit .i64 0),(9,.bl false),(10,.i .i64 (Int.ofNat i)),(11,.i .i64 (Int.ofNat j))],[.prd (.mr 22 .u64 nn b off cap 13 (DL d1))]⟩:=by
   intro jz;apply hXj;cbv;repeat' (first|(intro β;cbv)|((with_reducible refine And.intro ?_ ?_);focus (repeat' first|(with_reducible apply And.intro)|(with_reducible exact trivial)|(with_reducible exact rfl)|assumption|exact y6 (by assumption) (by decide+kernel)|exact y7 (by assumption) (by decide+kernel))))
   rcases Nat.lt_or_ge j i with g|g
   ·have f1:=hlt1 _ _ g;have f2:=hlt1 j 13 (by omega);have f2':=h13 j (by omega);have f3:=hge0 j
    repeat (any_goals (simp only[f1,f2,f2',f3,c1,c2];try (cbv;repeat' (first|(intro β;cbv)|((with_reducible refine And.intro ?_ ?_);focus (repeat' first|(with_reducible apply And.intro)|(with_reducible exact trivial)|(with_reducible exact rfl)|assumption|exact y6 (by assumption) (by decide+kernel)|exact y7 (by assumption) (by decide+kernel)))))))
    all_goals try assumption
    have hk:=hKK j (Sort.swp d1 j 0) true (by omega) (Pd1.swp (by omega) (by omega));rw[hsw d1 j 0 (by exact Pd1.1) (by omega) (by omega)];refine hP [(0,0)] _ _ _ _ ?_ rfl ?_ hk
    ·rfl
    ·exact⟨rfl,trivial⟩
   ·have f1:=hnlt _ _ g;have f2:=hlt1 j 13 (by omega);have f2':=h13 j (by omega);have f3:=hge0 j;have f4:=hlt1 i 13 (by omega);have f4':=h13 i (by omega);have f5:=hge0 i
    repeat (any_goals (simp only[f1];try (cbv;repeat' (first|(intro β;cbv)|((with_reducible refine And.intro ?_ ?_);focus (repeat' first|(with_reducible apply And.intro)|(with_reducible exact trivial)|(with_reducible exact rfl)|assumption|exact y6 (by assumption) (by decide+kernel)|exact y7 (by assumption) (by decide+kernel)))))))
    all_goals try assumption
    rw[hsw d1 i j (by exact Pd1.1) (by omega) (by omega)];obtain⟨d2,hd2⟩:∃d2,d2=Sort.swp d1 i j:=⟨_,rfl⟩;have Pd2:PM d0 d2:=by rw[hd2];exact Pd1.swp (by omega) (by omega)
    rw[←hd2];obtain⟨k,rfl⟩:∃k,j=k+1:=⟨j-1,by omega⟩;rw[hadd i (by omega),hsub k (by omega)];refine hL _ {x:Nat×Nat×Array Int//1≤x.1∧x.1≤13∧x.2.1≤12∧PM d0 x.2.2} (fun x j=>eO 168 j [(0,.sl 0 nn b off 13 cap),(1,.i .i64 0),(2,.i .i64 13),(3,.i .i64 (Int.ofNat p)),(8,.lit .i64 0),(9,.bl false),(10,.i .i64 (Int.ofNat x.1.1)),(11,.i .i64 (Int.ofNat x.1.2.1))])
     (fun x=>[.prd (.mr 22 .u64 nn b off cap 13 (DL x.1.2.2))]) (fun x=>x.1.2.1+1-x.1.1) ⟨(i+1,k,d2),by show 1≤i+1;omega,by show i+1≤13;omega,by show k≤12;omega,Pd2⟩ [(0,0)] _ _ (by decide+kernel) ⟨rfl,rfl,rfl,⟨rfl,trivial⟩⟩ ?_
    rintro⟨⟨i2,j2,d2⟩,hi2,hi3,hj2,Pd2⟩ js LPP hsats hLL hXX hRR;change 1≤i2 at hi2;change i2≤13 at hi3;change j2≤12 at hj2;change PM d0 d2 at Pd2;refine hL _ {x:Nat//i2≤x∧x≤13} (fun x j=>eO 168 j [(0,.sl 0 nn b off 13 cap),(1,.i .i64 0),(2,.i .i64 13),(3,.i .i64 (Int.ofNat p)),(8,.lit .i64 0),(9,.bl false),(10,.i .i64 (Int.ofNat x.1)),(11,.i .i64 (Int.ofNat j2))])
     (fun x=>[.prd (.mr 22 .u64 nn b off cap 13 (DL d2))]) (fun x=>13-x.1) ⟨i2,by omega⟩ [(0,0)] _ _ (by decide+kernel) ⟨rfl,rfl,rfl,⟨rfl,trivial⟩⟩ ?_
    rintro⟨i',hi'⟩ jsi' LPi' hsati' hLPi' hXi' hRi';change i2≤i'∧i'≤13 at hi';have outi':∀jz:Nat→SV,LPi' (.exit 6) ⟨eO 168 jz [(0,.sl 0 nn b off 13 cap),(1,.i .i64 0),(2,.i .i64 13),(3,.i .i64 (Int.ofNat p)),(8,.lit .i64 0),(9,.bl false),(10,.i .i64 (Int.ofNat i')),(11,.i .i64 (Int.ofNat j2))],[.prd (.mr 22 .u64 nn b off cap 13 (DL d2))]⟩:=by
     intro jz;apply hXi';cbv;repeat' (first|(intro β;cbv)|((with_reducible refine And.intro ?_ ?_);focus (repeat' first|(with_reducible apply And.intro)|(with_reducible exact trivial)|(with_reducible exact rfl)|assumption|exact y6 (by assumption) (by decide+kernel)|exact y7 (by assumption) (by decide+kernel))))
     refine hL _ {x:Nat//x≤j2} (fun x j=>eO 168 j [(0,.sl 0 nn b off 13 cap),(1,.i .i64 0),(2,.i .i64 13),(3,.i .i64 (Int.ofNat p)),(8,.lit .i64 0),(9,.bl false),(10,.i .i64 (Int.ofNat i')),(11,.i .i64 (Int.ofNat x.1))])
      (fun x=>[.prd (.mr 22 .u64 nn b off cap 13 (DL d2))]) (fun x=>x.1) ⟨j2,by omega⟩ [(0,0)] _ _ (by decide+kernel) ⟨rfl,rfl,rfl,⟨rfl,trivial⟩⟩ ?_
     rintro⟨j',hj'⟩ jsj' LPj' hsatj' hLPj' hXj' hRj';change j'≤j2 at hj';have outj':∀jz:Nat→SV,LPj' (.exit 8) ⟨eO 168 jz [(0,.sl 0 nn b off 13 cap),(1,.i .i64 0),(2,.i .i64 13),(3,.i .i64 (Int.ofNat p)),(8,.lit .i64 0),(9,.bl false),(10,.i .i64 (Int.ofNat i')),(11,.i .i64 (Int.ofNat j'))],[.prd (.mr 22 .u64 nn b off cap 13 (DL d2))]⟩:=by
      intro jz;apply hXj';cbv;repeat' (first|(intro β;cbv)|((with_reducible refine And.intro ?_ ?_);focus (repeat' first|(with_reducible apply And.intro)|(with_reducible exact trivial)|(with_reducible exact rfl)|assumption|exact y6 (by assumption) (by decide+kernel)|exact y7 (by assumption) (by decide+kernel))))
      rcases Nat.lt_or_ge j' i' with gg|gg
      ·have f1:=hlt1 _ _ gg;have f2:=hlt1 j' 13 (by omega);have f2':=h13 j' (by omega);have f3:=hge0 j'
       repeat (any_goals (simp only[f1];try (cbv;repeat' (first|(intro β;cbv)|((with_reducible refine And.intro ?_ ?_);focus (repeat' first|(with_reducible apply And.intro)|(with_reducible exact trivial)|(with_reducible exact rfl)|assumption|exact y6 (by assumption) (by decide+kernel)|exact y7 (by assumption) (by decide+kernel)))))))
       all_goals try assumption
       apply hXX;cbv;repeat' (first|(intro β;cbv)|((with_reducible refine And.intro ?_ ?_);focus (repeat' first|(with_reducible apply And.intro)|(with_reducible exact trivial)|(with_reducible exact rfl)|assumption|exact y6 (by assumption) (by decide+kernel)|exact y7 (by assumption) (by decide+kernel))))
       repeat (any_goals (simp only[f2,f2',f3,c1,c2];try (cbv;repeat' (first|(intro β;cbv)|((with_reducible refine And.intro ?_ ?_);focus (repeat' first|(with_reducible apply And.intro)|(with_reducible exact trivial)|(with_reducible exact rfl)|assumption|exact y6 (by assumption) (by decide+kernel)|exact y7 (by assumption) (by decide+kernel)))))))
       all_goals try assumption
       have hk:=hKK j' (Sort.swp d2 j' 0) false (by omega) (Pd2.swp (by omega) (by omega));rw[hsw d2 j' 0 (by exact Pd2.1) (by omega) (by omega)];refine hP [(0,0)] _ _ _ _ ?_ rfl ?_ hk
       ·rfl
       ·exact⟨rfl,trivial⟩
      ·have f1:=hnlt _ _ gg;have f2:=hlt1 j' 13 (by omega);have f2':=h13 j' (by omega);have f3:=hge0 j';have f4:=hlt1 i' 13 (by omega);have f4':=h13 i' (by omega);have f5:=hge0 i'
       repeat (any_goals (simp only[f1];try (cbv;repeat' (first|(intro β;cbv)|((with_reducible refine And.intro ?_ ?_);focus (repeat' first|(with_reducible apply And.intro)|(with_reducible exact trivial)|(with_reducible exact rfl)|assumption|exact y6 (by assumption) (by decide+kernel)|exact y7 (by assumption) (by decide+kernel)))))))
       all_goals try assumption
       rw[hsw d2 i' j' (by exact Pd2.1) (by omega) (by omega)];obtain⟨d3,hd3⟩:∃d3,d3=Sort.swp d2 i' j':=⟨_,rfl⟩;have Pd3:PM d0 d3:=by rw[hd3];exact Pd2.swp (by omega) (by omega)
       rw[←hd3];obtain⟨k,rfl⟩:∃k,j'=k+1:=⟨j'-1,by omega⟩;rw[hadd i' (by omega),hsub k (by omega)];exact hLL ⟨(i'+1,k,d3),by show 1≤i'+1;omega,by show i'+1≤13;omega,by show k≤12;omega,Pd3⟩ [(0,0)] _ (by show k+1-(i'+1)<j2+1-i2;omega) ⟨rfl,rfl,rfl,⟨rfl,trivial⟩⟩
     rcases Nat.lt_or_ge j' i' with gj'|gj'
     ·have e1:=hnle _ _ gj';cbv;repeat' (first|(intro β;cbv)|((with_reducible refine And.intro ?_ ?_);focus (repeat' first|(with_reducible apply And.intro)|(with_reducible exact trivial)|(with_reducible exact rfl)|assumption|exact y6 (by assumption) (by decide+kernel)|exact y7 (by assumption) (by decide+kernel))))
      repeat (any_goals (simp only[e1];try (cbv;repeat' (first|(intro β;cbv)|((with_reducible refine And.intro ?_ ?_);focus (repeat' first|(with_reducible apply And.intro)|(with_reducible exact trivial)|(with_reducible exact rfl)|assumption|exact y6 (by assumption) (by decide+kernel)|exact y7 (by assumption) (by decide+kernel)))))))
      refine kH _ outj' ?_;cbv
     ·have e1:=hle _ _ gj';have e2:=hge0 i';have e3:=hlt1 i' 13 (by omega);have e4:=h13 i' (by omega);have e2':=hge0 j';have e3':=hlt1 j' 13 (by omega);have e4':=h13 j' (by omega);cbv;repeat' (first|(intro β;cbv)|((with_reducible refine And.intro ?_ ?_);focus (repeat' first|(with_reducible apply And.intro)|(with_reducible exact trivial)|(with_reducible exact rfl)|assumption|exact y6 (by assumption) (by decide+kernel)|exact y7 (by assumption) (by decide+kernel))))
      repeat (any_goals (simp only[e1,e2,e3,e4,e2',e3',e4',c1,c2];try (cbv;repeat' (first|(intro β;cbv)|((with_reducible refine And.intro ?_ ?_);focus (repeat' first|(with_reducible apply And.intro)|(with_reducible exact trivial)|(with_reducible exact rfl)|assumption|exact y6 (by assumption) (by decide+kernel)|exact y7 (by assumption) (by decide+kernel)))))))
      all_goals try assumption
      all_goals try exact hlt _ _
      obtain⟨q,hq⟩:∃q,ap sD (NI (DL d2) j',NI (DL d2) 0)=q:=⟨_,rfl⟩;simp only[hq];cases q with
      |false=>
       cbv;repeat' (first|(intro β;cbv)|((with_reducible refine And.intro ?_ ?_);focus (repeat' first|(with_reducible apply And.intro)|(with_reducible exact trivial)|(with_reducible exact rfl)|assumption|exact y6 (by assumption) (by decide+kernel)|exact y7 (by assumption) (by decide+kernel))))
       obtain⟨j'k,rfl⟩:∃k,j'=k+1:=⟨j'-1,by omega⟩;rw[hsub j'k (by omega)];refine hLPj' ⟨j'k,by show j'k≤j2;omega⟩ [(0,0)] _ (by show j'k<j'k+1;omega) ⟨rfl,rfl,rfl,⟨rfl,trivial⟩⟩
      |true=>
       cbv;repeat' (first|(intro β;cbv)|((with_reducible refine And.intro ?_ ?_);focus (repeat' first|(with_reducible apply And.intro)|(with_reducible exact trivial)|(with_reducible exact rfl)|assumption|exact y6 (by assumption) (by decide+kernel)|exact y7 (by assumption) (by decide+kernel))))
       refine kH _ outj' ?_;cbv
    rcases Nat.lt_or_ge j2 i' with gi'|gi'
    ·have e1:=hnle _ _ gi';cbv;repeat' (first|(intro β;cbv)|((with_reducible refine And.intro ?_ ?_);focus (repeat' first|(with_reducible apply And.intro)|(with_reducible exact trivial)|(with_reducible exact rfl)|assumption|exact y6 (by assumption) (by decide+kernel)|exact y7 (by assumption) (by decide+kernel))))
     repeat (any_goals (simp only[e1];try (cbv;repeat' (first|(intro β;cbv)|((with_reducible refine And.intro ?_ ?_);focus (repeat' first|(with_reducible apply And.intro)|(with_reducible exact trivial)|(with_reducible exact rfl)|assumption|exact y6 (by assumption) (by decide+kernel)|exact y7 (by assumption) (by decide+kernel)))))))
     refine kH _ outi' ?_;cbv
    ·have e1:=hle _ _ gi';have e2:=hge0 i';have e3:=hlt1 i' 13 (by omega);have e4:=h13 i' (by omega);have e2':=hge0 j2;have e3':=hlt1 j2 13 (by omega);have e4':=h13 j2 (by omega);cbv;repeat' (first|(intro β;cbv)|((with_reducible refine And.intro ?_ ?_);focus (repeat' first|(with_reducible apply And.intro)|(with_reducible exact trivial)|(with_reducible exact rfl)|assumption|exact y6 (by assumption) (by decide+kernel)|exact y7 (by assumption) (by decide+kernel))))
     repeat (any_goals (simp only[e1,e2,e3,e4,e2',e3',e4',c1,c2];try (cbv;repeat' (first|(intro β;cbv)|((with_reducible refine And.intro ?_ ?_);focus (repeat' first|(with_reducible apply And.intro)|(with_reducible exact trivial)|(with_reducible exact rfl)|assumption|exact y6 (by assumption) (by decide+kernel)|exact y7 (by assumption) (by decide+kernel)))))))
     all_goals try assumption
     all_goals try exact hlt _ _
     obtain⟨q,hq⟩:∃q,ap sD (NI (DL d2) i',NI (DL d2) 0)=q:=⟨_,rfl⟩;simp only[hq];cases q with
     |true=>
      cbv;repeat' (first|(intro β;cbv)|((with_reducible refine And.intro ?_ ?_);focus (repeat' first|(with_reducible apply And.intro)|(with_reducible exact trivial)|(with_reducible exact rfl)|assumption|exact y6 (by assumption) (by decide+kernel)|exact y7 (by assumption) (by decide+kernel))))
      rw[hadd i' (by omega)];refine hLPi' ⟨i'+1,by show i2≤i'+1∧i'+1≤13;omega⟩ [(0,0)] _ (by show 13-(i'+1)<13-i';omega) ⟨rfl,rfl,rfl,⟨rfl,trivial⟩⟩
     |false=>
      cbv;repeat' (first|(intro β;cbv)|((with_reducible refine And.intro ?_ ?_);focus (repeat' first|(with_reducible apply And.intro)|(with_reducible exact trivial)|(with_reducible exact rfl)|assumption|exact y6 (by assumption) (by decide+kernel)|exact y7 (by assumption) (by decide+kernel))))
      refine kH _ outi' ?_;cbv
  rcases Nat.lt_or_ge j i with gj|gj
  ·have e1:=hnle _ _ gj;cbv;repeat' (first|(intro β;cbv)|((with_reducible refine And.intro ?_ ?_);focus (repeat' first|(with_reducible apply And.intro)|(with_reducible exact trivial)|(with_reducible exact rfl)|assumption|exact y6 (by assumption) (by decide+kernel)|exact y7 (by assumption) (by decide+kernel))))
   repeat (any_goals (simp only[e1];try (cbv;repeat' (first|(intro β;cbv)|((with_reducible refine And.intro ?_ ?_);focus (repeat' first|(with_reducible apply And.intro)|(with_reducible exact trivial)|(with_reducible exact rfl)|assumption|exact y6 (by assumption) (by decide+kernel)|exact y7 (by assumption) (by decide+kernel)))))))
   refine kH _ outj ?_;cbv
  ·have e1:=hle _ _ gj;have e2:=hge0 i;have e3:=hlt1 i 13 (by omega);have e4:=h13 i (by omega);have e2':=hge0 j;have e3':=hlt1 j 13 (by omega);have e4':=h13 j (by omega);cbv;repeat' (first|(intro β;cbv)|((with_reducible refine And.intro ?_ ?_);focus (repeat' first|(with_reducible apply And.intro)|(with_reducible exact trivial)|(with_reducible exact rfl)|assumption|exact y6 (by assumption) (by decide+kernel)|exact y7 (by assumption) (by decide+kernel))))
   repeat (any_goals (simp only[e1,e2,e3,e4,e2',e3',e4',c1,c2];try (cbv;repeat' (first|(intro β;cbv)|((with_reducible refine And.intro ?_ ?_);focus (repeat' first|(with_reducible apply And.intro)|(with_reducible exact trivial)|(with_reducible exact rfl)|assumption|exact y6 (by assumption) (by decide+kernel)|exact y7 (by assumption) (by decide+kernel)))))))
   all_goals try assumption
   all_goals try exact hlt _ _
   obtain⟨q,hq⟩:∃q,ap sD (NI (DL d1) j,NI (DL d1) 0)=q:=⟨_,rfl⟩;simp only[hq];cases q with
   |false=>
    cbv;repeat' (first|(intro β;cbv)|((with_reducible refine And.intro ?_ ?_);focus (repeat' first|(with_reducible apply And.intro)|(with_reducible exact trivial)|(with_reducible exact rfl)|assumption|exact y6 (by assumption) (by decide+kernel)|exact y7 (by assumption) (by decide+kernel))))
    obtain⟨jk,rfl⟩:∃k,j=k+1:=⟨j-1,by omega⟩;rw[hsub jk (by omega)];refine hLPj ⟨jk,by show jk≤12;omega⟩ [(0,0)] _ (by show jk<jk+1;omega) ⟨rfl,rfl,rfl,⟨rfl,trivial⟩⟩
   |true=>
    cbv;repeat' (first|(intro β;cbv)|((with_reducible refine And.intro ?_ ?_);focus (repeat' first|(with_reducible apply And.intro)|(with_reducible exact trivial)|(with_reducible exact rfl)|assumption|exact y6 (by assumption) (by decide+kernel)|exact y7 (by assumption) (by decide+kernel))))
    refine kH _ outj ?_;cbv
 rcases Nat.lt_or_ge 12 i with gi|gi
 ·have e1:=hnle _ _ gi;cbv;repeat' (first|(intro β;cbv)|((with_reducible refine And.intro ?_ ?_);focus (repeat' first|(with_reducible apply And.intro)|(with_reducible exact trivial)|(with_reducible exact rfl)|assumption|exact y6 (by assumption) (by decide+kernel)|exact y7 (by assumption) (by decide+kernel))))
  repeat (any_goals (simp only[e1];try (cbv;repeat' (first|(intro β;cbv)|((with_reducible refine And.intro ?_ ?_);focus (repeat' first|(with_reducible apply And.intro)|(with_reducible exact trivial)|(with_reducible exact rfl)|assumption|exact y6 (by assumption) (by decide+kernel)|exact y7 (by assumption) (by decide+kernel)))))))
  refine kH _ outi ?_;cbv
 ·have e1:=hle _ _ gi;have e2:=hge0 i;have e3:=hlt1 i 13 (by omega);have e4:=h13 i (by omega);have e2':=hge0 12;have e3':=hlt1 12 13 (by omega);have e4':=h13 12 (by omega);cbv;repeat' (first|(intro β;cbv)|((with_reducible refine And.intro ?_ ?_);focus (repeat' first|(with_reducible apply And.intro)|(with_reducible exact trivial)|(with_reducible exact rfl)|assumption|exact y6 (by assumption) (by decide+kernel)|exact y7 (by assumption) (by decide+kernel))))
  repeat (any_goals (simp only[e1,e2,e3,e4,e2',e3',e4',c1,c2];try (cbv;repeat' (first|(intro β;cbv)|((with_reducible refine And.intro ?_ ?_);focus (repeat' first|(with_reducible apply And.intro)|(with_reducible exact trivial)|(with_reducible exact rfl)|assumption|exact y6 (by assumption) (by decide+kernel)|exact y7 (by assumption) (by decide+kernel)))))))
  all_goals try assumption
  all_goals try exact hlt _ _
  obtain⟨q,hq⟩:∃q,ap sD (NI (DL d1) i,NI (DL d1) 0)=q:=⟨_,rfl⟩;simp only[hq];cases q with
  |true=>
   cbv;repeat' (first|(intro β;cbv)|((with_reducible refine And.intro ?_ ?_);focus (repeat' first|(with_reducible apply And.intro)|(with_reducible exact trivial)|(with_reducible exact rfl)|assumption|exact y6 (by assumption) (by decide+kernel)|exact y7 (by assumption) (by decide+kernel))))
   rw[hadd i (by omega)];refine hLPi ⟨i+1,by show 1≤i+1∧i+1≤13;omega⟩ [(0,0)] _ (by show 13-(i+1)<13-i;omega) ⟨rfl,rfl,rfl,⟨rfl,trivial⟩⟩
  |false=>
   cbv;repeat' (first|(intro β;cbv)|((with_reducible refine And.intro ?_ ?_);focus (repeat' first|(with_reducible apply And.intro)|(with_reducible exact trivial)|(with_reducible exact rfl)|assumption|exact y6 (by assumption) (by decide+kernel)|exact y7 (by assumption) (by decide+kernel))))
   refine kH _ outi ?_;cbv
end Go.Sx
