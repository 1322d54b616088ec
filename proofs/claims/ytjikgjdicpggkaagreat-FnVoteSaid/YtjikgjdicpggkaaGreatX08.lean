import Derived.Test.YtjikgjdicpggkaaGreatX07
set_option autoImplicit true
set_option relaxedAutoImplicit true
set_option linter.all false
set_option maxRecDepth 100000
set_option maxHeartbeats 4000000
namespace Go.Sx
open Go Go.Proofs
theorem s374 {b off cap nn:Nat} {l:List Int} {K:SV→List C→Prop}
  (hKK:∀(p:Nat) (h:Int),p≤12→h=0∨h=1→K (.tup [.i .i64 (Int.ofNat p),.i .i64 h]) [.prd (.mr 22 .u64 nn b off cap 13 l)]) (F:HProp):
  inS Tryz.prog F 374 [.sl 0 nn b off 13 cap,.i .i64 0,.i .i64 13] [.prd (.mr 22 .u64 nn b off cap 13 l)] K:=by
 refine aF ⟨false,false⟩ (fun TX=>[wQ TX]) (fun _=>(.cons xG .nil)) Tryz.func374 Tryz.ntmps374 rfl rfl ?_;intros;rename_i NI _ _ _ _ _ _ _ TX hTX _ _ AR hA CM hC _ _ _ _ _ _ _ hI _ _ _ _ hP;obtain⟨tz,tl,tt,to,ap⟩:=TX;have hap:∀{α β:Type} (f:α→β) (x:α),ap f x=f x:=fun f x=>congrArg (fun t:TF=>t.ap f x) hTX;have hlt:∀x y,OLt x y (ap sD (x,y)):=by intro x y;rw[hap];exact⟨rfl⟩
 have a1:AR .sub .i64 13 0=13:=O7;have a2:AR .quo .i64 13 4=3:=by rw[hA];rfl
 have a3:AR .mul .i64 3 1=3:=by rw[hA];rfl
 have a4:AR .mul .i64 3 2=6:=by rw[hA];rfl
 have a5:AR .mul .i64 3 3=9:=by rw[hA];rfl
 have a6:AR .add .i64 0 3=3:=by rw[hA];rfl
 have a7:AR .add .i64 0 6=6:=by rw[hA];rfl
 have a8:AR .add .i64 0 9=9:=by rw[hA];rfl
 have c1:CM .le 8 13=true:=O6;have c2:CM .le 50 13=false:=O6;have z3:CM .le 0 3=true:=by rw[hC];rfl
 have z6:CM .le 0 6=true:=by rw[hC];rfl
 have z9:CM .le 0 9=true:=by rw[hC];rfl
 have t3:CM .lt 3 (Int.ofNat 13)=true:=by rw[hC];rfl
 have t6:CM .lt 6 (Int.ofNat 13)=true:=by rw[hC];rfl
 have t9:CM .lt 9 (Int.ofNat 13)=true:=by rw[hC];rfl
 have u3:CM .lt 3 13=true:=by rw[hC];rfl
 have u6:CM .lt 6 13=true:=by rw[hC];rfl
 have u9:CM .lt 9 13=true:=by rw[hC];rfl
 have w1:AR .add .i64 0 1=1:=by rw[hA];rfl
 have w2:AR .add .i64 1 1=2:=by rw[hA];rfl
 have w3:AR .add .i64 2 1=3:=by rw[hA];rfl
 have v0:CM .eq 0 0=true:=by rw[hC];rfl
 have v1:CM .eq 1 0=false:=by rw[hC];rfl
 have v2:CM .eq 2 0=false:=by rw[hC];rfl
 have v3:CM .eq 3 0=false:=by rw[hC];rfl
 have x1:CM .eq 1 12=false:=by rw[hC];rfl
 have x2:CM .eq 2 12=false:=by rw[hC];rfl
 have x3:CM .eq 3 12=false:=by rw[hC];rfl
 cbv;repeat' first|exact O5|intro β;cbv|apply O4
 repeat (any_goals (simp only[a1,a2,a3,a4,a5,a6,a7,a8,c1,c2];try (cbv;repeat' first|exact O5|intro β;cbv|apply O4)))
 refine inl @hI Tryz.func402 Tryz.ntmps402 rfl rfl ?_;cbv;repeat' first|exact O5|intro β;cbv|apply O4
 refine inl @hI Tryz.func424 Tryz.ntmps424 rfl rfl ?_;cbv;repeat' first|exact O5|intro β;cbv|apply O4
 repeat (any_goals (simp only[w1,w2,w3,v0,v1,v2,v3,x1,x2,x3,z3,z6,z9,t3,t6,t9,u3,u6,u9];try (cbv;repeat' first|exact O5|intro β;cbv|apply O4)))
 all_goals try exact hlt _ _
 rcases hq0:ap sD (NI l 6,NI l 3) with _|_
 ·cbv;repeat' first|exact O5|intro β;cbv|apply O4
  refine inl @hI Tryz.func424 Tryz.ntmps424 rfl rfl ?_;cbv;repeat' first|exact O5|intro β;cbv|apply O4
  repeat (any_goals (simp only[w1,w2,w3,v0,v1,v2,v3,x1,x2,x3,z3,z6,z9,t3,t6,t9,u3,u6,u9];try (cbv;repeat' first|exact O5|intro β;cbv|apply O4)))
  all_goals try exact hlt _ _
  rcases hq1:ap sD (NI l 9,NI l 6) with _|_
  ·cbv;repeat' first|exact O5|intro β;cbv|apply O4
   refine inl @hI Tryz.func424 Tryz.ntmps424 rfl rfl ?_;cbv;repeat' first|exact O5|intro β;cbv|apply O4
   repeat (any_goals (simp only[w1,w2,w3,v0,v1,v2,v3,x1,x2,x3,z3,z6,z9,t3,t6,t9,u3,u6,u9];try (cbv;repeat' first|exact O5|intro β;cbv|apply O4)))
   all_goals try exact hlt _ _
   rcases hq2:ap sD (NI l 6,NI l 3) with _|_
   ·cbv;repeat' first|exact O5|intro β;cbv|apply O4
    repeat (any_goals (simp only[w1,w2,w3,v0,v1,v2,v3,x1,x2,x3,z3,z6,z9,t3,t6,t9,u3,u6,u9];try (cbv;repeat' first|exact O5|intro β;cbv|apply O4)))
    have hk:=hKK 6 1 (by omega) (by omega);refine hP [(0,0)] _ _ _ _ ?_ rfl ?_ hk
    ·rfl
    ·exact⟨rfl,trivial⟩
   ·cbv;repeat' first|exact O5|intro β;cbv|apply O4
    repeat (any_goals (simp only[w1,w2,w3,v0,v1,v2,v3,x1,x2,x3,z3,z6,z9,t3,t6,t9,u3,u6,u9];try (cbv;repeat' first|exact O5|intro β;cbv|apply O4)))
    have hk:=hKK 3 0 (by omega) (by omega);refine hP [(0,0)] _ _ _ _ ?_ rfl ?_ hk
    ·rfl
    ·exact⟨rfl,trivial⟩
  ·cbv;repeat' first|exact O5|intro β;cbv|apply O4
   refine inl @hI Tryz.func424 Tryz.ntmps424 rfl rfl ?_;cbv;repeat' first|exact O5|intro β;cbv|apply O4
   repeat (any_goals (simp only[w1,w2,w3,v0,v1,v2,v3,x1,x2,x3,z3,z6,z9,t3,t6,t9,u3,u6,u9];try (cbv;repeat' first|exact O5|intro β;cbv|apply O4)))
   all_goals try exact hlt _ _
   rcases hq2:ap sD (NI l 9,NI l 3) with _|_
   ·cbv;repeat' first|exact O5|intro β;cbv|apply O4
    repeat (any_goals (simp only[w1,w2,w3,v0,v1,v2,v3,x1,x2,x3,z3,z6,z9,t3,t6,t9,u3,u6,u9];try (cbv;repeat' first|exact O5|intro β;cbv|apply O4)))
    have hk:=hKK 9 0 (by omega) (by omega);refine hP [(0,0)] _ _ _ _ ?_ rfl ?_ hk
    ·rfl
    ·exact⟨rfl,trivial⟩
   ·cbv;repeat' first|exact O5|intro β;cbv|apply O4
    repeat (any_goals (simp only[w1,w2,w3,v0,v1,v2,v3,x1,x2,x3,z3,z6,z9,t3,t6,t9,u3,u6,u9];try (cbv;repeat' first|exact O5|intro β;cbv|apply O4)))
    have hk:=hKK 3 0 (by omega) (by omega);refine hP [(0,0)] _ _ _ _ ?_ rfl ?_ hk
    ·rfl
    ·exact⟨rfl,trivial⟩
 ·cbv;repeat' first|exact O5|intro β;cbv|apply O4
  refine inl @hI Tryz.func424 Tryz.ntmps424 rfl rfl ?_;cbv;repeat' first|exact O5|intro β;cbv|apply O4
  repeat (any_goals (simp only[w1,w2,w3,v0,v1,v2,v3,x1,x2,x3,z3,z6,z9,t3,t6,t9,u3,u6,u9];try (cbv;repeat' first|exact O5|intro β;cbv|apply O4)))
  all_goals try exact hlt _ _
  rcases hq1:ap sD (NI l 9,NI l 3) with _|_
  ·cbv;repeat' first|exact O5|intro β;cbv|apply O4
   refine inl @hI Tryz.func424 Tryz.ntmps424 rfl rfl ?_;cbv;repeat' first|exact O5|intro β;cbv|apply O4
   repeat (any_goals (simp only[w1,w2,w3,v0,v1,v2,v3,x1,x2,x3,z3,z6,z9,t3,t6,t9,u3,u6,u9];try (cbv;repeat' first|exact O5|intro β;cbv|apply O4)))
   all_goals try exact hlt _ _
   rcases hq2:ap sD (NI l 3,NI l 6) with _|_
   ·cbv;repeat' first|exact O5|intro β;cbv|apply O4
    repeat (any_goals (simp only[w1,w2,w3,v0,v1,v2,v3,x1,x2,x3,z3,z6,z9,t3,t6,t9,u3,u6,u9];try (cbv;repeat' first|exact O5|intro β;cbv|apply O4)))
    have hk:=hKK 3 0 (by omega) (by omega);refine hP [(0,0)] _ _ _ _ ?_ rfl ?_ hk
    ·rfl
    ·exact⟨rfl,trivial⟩
   ·cbv;repeat' first|exact O5|intro β;cbv|apply O4
    repeat (any_goals (simp only[w1,w2,w3,v0,v1,v2,v3,x1,x2,x3,z3,z6,z9,t3,t6,t9,u3,u6,u9];try (cbv;repeat' first|exact O5|intro β;cbv|apply O4)))
    have hk:=hKK 6 0 (by omega) (by omega);refine hP [(0,0)] _ _ _ _ ?_ rfl ?_ hk
    ·rfl
    ·exact⟨rfl,trivial⟩
  ·cbv;repeat' first|exact O5|intro β;cbv|apply O4
   refine inl @hI Tryz.func424 Tryz.ntmps424 rfl rfl ?_;cbv;repeat' first|exact O5|intro β;cbv|apply O4
   repeat (any_goals (simp only[w1,w2,w3,v0,v1,v2,v3,x1,x2,x3,z3,z6,z9,t3,t6,t9,u3,u6,u9];try (cbv;repeat' first|exact O5|intro β;cbv|apply O4)))
   all_goals try exact hlt _ _
   rcases hq2:ap sD (NI l 9,NI l 6) with _|_
   ·cbv;repeat' first|exact O5|intro β;cbv|apply O4
    repeat (any_goals (simp only[w1,w2,w3,v0,v1,v2,v3,x1,x2,x3,z3,z6,z9,t3,t6,t9,u3,u6,u9];try (cbv;repeat' first|exact O5|intro β;cbv|apply O4)))
    have hk:=hKK 9 0 (by omega) (by omega);refine hP [(0,0)] _ _ _ _ ?_ rfl ?_ hk
    ·rfl
    ·exact⟨rfl,trivial⟩
   ·cbv;repeat' first|exact O5|intro β;cbv|apply O4
    repeat (any_goals (simp only[w1,w2,w3,v0,v1,v2,v3,x1,x2,x3,z3,z6,z9,t3,t6,t9,u3,u6,u9];try (cbv;repeat' first|exact O5|intro β;cbv|apply O4)))
    have hk:=hKK 6 0 (by omega) (by omega);refine hP [(0,0)] _ _ _ _ ?_ rfl ?_ hk
    ·rfl
    ·exact⟨rfl,trivial⟩
theorem s376 {b off cap nn:Nat} {l:List Int} {K:SV→List C→Prop}
  (hKK:∀r:Bool,K (.bl r) [.prd (.mr 22 .u64 nn b off cap 13 l)]) (F:HProp):
  inS Tryz.prog F 376 [.sl 0 nn b off 13 cap,.i .i64 0,.i .i64 13] [.prd (.mr 22 .u64 nn b off cap 13 l)] K:=by
 refine aF ⟨false,false⟩ (fun TX=>[wQ TX]) (fun _=>(.cons xG .nil)) Tryz.func376 Tryz.ntmps376 rfl rfl ?_;intros;rename_i NI _ _ _ _ _ _ _ TX hTX _ _ AR hA CM hC _ _ _ _ _ _ hU _ hL _ _ _ hP;obtain⟨tz,tl,tt,to,ap⟩:=TX;have hap:∀{α β:Type} (f:α→β) (x:α),ap f x=f x:=fun f x=>congrArg (fun t:TF=>t.ap f x) hTX;have hlt:∀x y,OLt x y (ap sD (x,y)):=by intro x y;rw[hap];exact⟨rfl⟩
 have hadd:∀i:Nat,i≤13→AR .add .i64 (Int.ofNat i) 1=Int.ofNat (i+1):=by intro i hi;rw[hA];exact fU (by omega)
 have hsub:∀i:Nat,i<13→AR .sub .i64 (Int.ofNat (i+1)) 1=Int.ofNat i:=by intro i hi;rw[hA];simp only[arStd,IntKind.wrap_i64,Int.ofNat_eq_natCast];omega
 have hlt1:∀i j:Nat,i<j→CM .lt (Int.ofNat i) (Int.ofNat j)=true:=by intro i j h;rw[hC];simp only[cmStd,decide_eq_true_eq,Int.ofNat_eq_natCast];omega
 have hnlt:∀i j:Nat,j≤i→CM .lt (Int.ofNat i) (Int.ofNat j)=false:=by intro i j h;rw[hC];simp only[cmStd,decide_eq_false_iff_not,Int.ofNat_eq_natCast];omega
 have hge0:∀i:Nat,CM .le 0 (Int.ofNat i)=true:=by intro i;rw[hC];simp[cmStd]
 have h13:∀i:Nat,i<13→CM .lt (Int.ofNat i) 13=true:=by intro i h;rw[hC];simp only[cmStd,decide_eq_true_eq,Int.ofNat_eq_natCast];omega
 have hn13:∀i:Nat,13≤i→CM .lt (Int.ofNat i) 13=false:=by intro i h;rw[hC];simp only[cmStd,decide_eq_false_iff_not,Int.ofNat_eq_natCast];omega
 have heq:CM .eq (Int.ofNat 13) 13=true:=by rw[hC];rfl
 have hne:∀i:Nat,i<13→CM .eq (Int.ofNat i) 13=false:=by intro i h;rw[hC];simp only[cmStd];simp;omega
 have a1:AR .add .i64 0 1=(Int.ofNat 1):=O7;have a2:AR .sub .i64 13 0=13:=O7;have c1:CM .lt 0 5=true:=O6;have c2:CM .lt 13 50=true:=O6;cbv;repeat' first|exact O5|intro β;cbv|apply O4
 refine hU 1 (by decide+kernel) ?_;cbv;repeat' first|exact O5|intro β;cbv|apply O4
 repeat (any_goals (simp only[a1,c1];try (cbv;repeat' first|exact O5|intro β;cbv|apply O4)))
 refine hL _ {x:Nat//1≤x∧x≤13} (fun x j=>eO 133 j [(0,.sl 0 nn b off 13 cap),(1,.i .i64 0),(2,.i .i64 13),(6,.bl false),(7,.i .i64 (Int.ofNat x.1)),(8,.lit .i64 0)])
  (fun x=>[.prd (.mr 22 .u64 nn b off cap 13 l)]) (fun x=>13-x.1) ⟨1,by omega⟩ [(0,0)] _ _ (by decide+kernel) ⟨rfl,rfl,rfl,⟨rfl,trivial⟩⟩ ?_
 rintro⟨i,hi⟩ js LP hsat2 hLP hX hR;change 1≤i∧i≤13 at hi;have hkt:=hKK true;have hkf:=hKK false;rcases Nat.lt_or_ge i 13 with g|g
 ·have e1:=h13 i g;obtain⟨k,hk⟩:∃k,i=k+1:=⟨i-1,by omega⟩;have e2:AR .sub .i64 (Int.ofNat i) 1=Int.ofNat k:=by rw[hk];exact hsub k (by omega)
  have e3:=hge0 i;have e4:=hge0 k;have e5:=hlt1 i 13 (by omega);have e6:=hlt1 k 13 (by omega);have e7:=h13 k (by omega);have e8:=hne i g;obtain⟨K2,hK2⟩:∃K2,K2=i+1:=⟨_,rfl⟩;have e9:=hadd i (by omega);rw[←hK2] at e9;cbv;repeat' first|exact O5|intro β;cbv|apply O4
  repeat (any_goals (simp only[e1,e2,e3,e4,e5,e6,e7];try (cbv;repeat' first|exact O5|intro β;cbv|apply O4)))
  all_goals try assumption
  all_goals try exact hlt _ _
  rcases hq:ap sD (NI l i,NI l k) with _|_
  ·cbv;repeat' first|exact O5|intro β;cbv|apply O4
   rw[e9];exact hLP ⟨K2,by show 1≤K2;omega,by show K2≤13;omega⟩ [(0,0)] _ (by show 13-K2<13-i;omega) ⟨rfl,rfl,rfl,⟨rfl,trivial⟩⟩
  ·cbv;repeat' first|exact O5|intro β;cbv|apply O4
   apply hX;cbv;repeat' first|exact O5|intro β;cbv|apply O4
   repeat (any_goals (simp only[e8,a2,c2];try (cbv;repeat' first|exact O5|intro β;cbv|apply O4)))
   refine hP [(0,0)] _ _ _ _ ?_ rfl ?_ hkf
   ·rfl
   ·exact⟨rfl,trivial⟩
 ·have e1:=hn13 i g;obtain rfl:i=13:=by omega
  cbv;repeat' first|exact O5|intro β;cbv|apply O4
  repeat (any_goals (simp only[e1];try (cbv;repeat' first|exact O5|intro β;cbv|apply O4)))
  apply hX;cbv;repeat' first|exact O5|intro β;cbv|apply O4
  repeat (any_goals (simp only[heq];try (cbv;repeat' first|exact O5|intro β;cbv|apply O4)))
  refine hP [(0,0)] _ _ _ _ ?_ rfl ?_ hkt
  ·rfl
  ·exact⟨rfl,trivial⟩
theorem jQ (d:Array Int) (a e:Nat) (h:a≤e) (h2:e≤d.size):(Sort.insertionSort Sort.ltInt d a e).size=d.size∧(Sort.insertionSort Sort.ltInt d a e).toList.Perm d.toList:=by have h1:=(Sort.insertionSort_holds (lt:=Sort.ltInt) Sort.swo_ltInt d a e h h2).1;have h3:=Sort.permIn_mono d _ a e 0 d.size (Nat.zero_le _) h2 (Nat.le_refl _) h1;refine⟨h1.1,?_⟩;have h4:=h3.2.2;rw[Array.extract_size,←h1.1,Array.extract_size] at h4;exact h4
theorem len13 (w:World):Calls Tryz.prog 348 #[.int .u64 13] w fun e w'=>e=.returned (.int .i64 4)∧w'=w:=by
 go_enter Tryz.func348,Tryz.ntmps348
 go_wp2
 go_ret
 refine⟨congrArg Ending.returned ?_,rfl⟩;show Value.int .i64 _=_;refine congrArg (Value.int .i64) ?_;decide+kernel
theorem s348x {K:SV→List C→Prop} (hKK:K (.i .i64 4) []) (F:HProp):inS Tryz.prog F 348 [.i .u64 13] [] K:=
 ⟨⟨_,rfl,by decide+kernel,by decide⟩,fun w hs=>(len13 w).mono fun e w' ⟨h1,h2⟩=>.inr ⟨_,_,hKK,h1,h2▸hs⟩⟩
theorem zF {b off cap nn a e:Nat} {lim:Int} {d:Array Int} {K:SV→List C→Prop} (hd:d.size=13) (he:e≤13) (ha:a≤e) (h12:e-a≤12) (DL:Array Int→List Int) (hDL:DL=fun d=>d.toList)
  (hKK:∀d',PM d d'→K (.tup []) [.prd (.mr 22 .u64 nn b off cap 13 (DL d'))]) (F:HProp):
  inS Tryz.prog F 347 [.sl 0 nn b off 13 cap,.i .i64 (Int.ofNat a),.i .i64 (Int.ofNat e),.i .i64 lim] [.prd (.mr 22 .u64 nn b off cap 13 (DL d))] K:=by
 refine aF ⟨false,false⟩ (fun TX=>[wQ TX]) (fun _=>(.cons xG .nil)) Tryz.func347 Tryz.ntmps347 rfl rfl ?_;intros;rename_i AR _ CM _ _ _ _ _ _ _ hU _ _ _ hN _ hP;obtain⟨L,hL⟩:∃L:Int,L=(e:Int)-a:=⟨_,rfl⟩;replace hL:L=(e:Int)-a:=hL;have a1:AR .sub .i64 (Int.ofNat e) (Int.ofNat a)=L:=O7;have c1:CM .le L 12=true:=O6;have hk:=hKK (Sort.insertionSort Sort.ltInt d a e) (jQ d a e ha (by omega)|>.imp (fun h=>by rw[h,hd]) id);have hll:(DL d).length=13:=by rw[hDL];simpa using hd
 have hrr:DL (Sort.insertionSort Sort.ltInt d a e)=(Sort.insertionSort Sort.ltInt (DL d).toArray a e).toList:=by rw[hDL]
 obtain⟨r,hr⟩:∃r,r=DL (Sort.insertionSort Sort.ltInt d a e):=⟨_,rfl⟩;rw[←hr] at hk hrr;cbv;repeat' first|exact O5|intro β;cbv|apply O4
 refine hU 1 (by decide+kernel) ?_;cbv;repeat' first|exact O5|intro β;cbv|apply O4
 repeat (any_goals (simp only[a1,c1];try (cbv;repeat' first|exact O5|intro β;cbv|apply O4)))
 refine aD hN [0] (by decide) rfl ?_ ?_ (fun F'=>zU (nn:=nn) (b:=b) (off:=off) (cap:=cap) (n:=13) (a:=a) (e:=e) (l:=DL d) hrr hll he (by omega) (by omega) ?_ F')
 ·rfl
 ·exact⟨rfl,trivial⟩
 cbv;repeat' first|exact O5|intro β;cbv|apply O4
 refine hP [(0,0)] _ _ _ _ ?_ rfl ?_ hk
 ·rfl
 ·exact⟨rfl,trivial⟩
theorem s347x {b off cap nn:Nat} {d:Array Int} {K:SV→List C→Prop} (hd:d.size=13) (DL:Array Int→List Int) (hDL:DL=fun d=>d.toList)
  (hKK:∀d',PM d d'→K (.tup []) [.prd (.mr 22 .u64 nn b off cap 13 (DL d'))]) (F:HProp):
  inS Tryz.prog F 347 [.sl 0 nn b off 13 cap,.i .i64 0,.i .i64 13,.i .i64 4] [.prd (.mr 22 .u64 nn b off cap 13 (DL d))] K:=by
 refine aF ⟨false,false⟩ (fun TX=>[wQ TX]) (fun _=>(.cons xG .nil)) Tryz.func347 Tryz.ntmps347 rfl rfl ?_;intros;rename_i AR hA CM hC _ _ _ _ _ _ hU _ _ _ hN _ hP;have a1:AR .sub .i64 13 0=13:=O7;have c1:CM .le 13 12=false:=O6;have c2:CM .eq 4 0=false:=O6;have c3:CM .eq 0 2=false:=O6;have c4:CM .eq 1 2=false:=O6;have c5:CM .eq 0 1=false:=O6;have c6:CM .eq 1 1=true:=O6;have c7:CM .lt 0 0=false:=O6;have hk0:=hKK d (PM.refl hd);have b1:AR .add .i64 0 0=0:=O7;have part:∀(m:Nat) (d1:Array Int) (r:Bool),m≤12→PM d d1→∀d2,PM d1 d2→PM d d2:=fun m d1 r hm h1 d2 h2=>⟨h2.1,h2.2.trans h1.2⟩;have hfin:∀(m:Nat) (d1:Array Int),m≤12→PM d d1→True:=fun _ _ _ _=>trivial;have e379:∀(m:Nat),m≤12→AR .sub .i64 (Int.ofNat m) 0=Int.ofNat m:=by intro m hm;rw[hA];simp only[arStd,IntKind.wrap_i64,Int.ofNat_eq_natCast];omega
 have e380:∀(m:Nat),m≤12→AR .sub .i64 13 (Int.ofNat m)=Int.ofNat (13-m):=by intro m hm;rw[hA];simp only[arStd,IntKind.wrap_i64,Int.ofNat_eq_natCast];omega
 have e381:∀(m:Nat),m≤12→AR .add .i64 (Int.ofNat m) 1=Int.ofNat (m+1):=by intro m hm;rw[hA];exact fU (by omega)
 have e382:AR .quo .i64 13 8=1:=by rw[hA];rfl
 have e383:∀(m:Nat),m≤12→m<13-m→CM .lt (Int.ofNat m) (Int.ofNat (13-m))=true:=by intro m hm h;rw[hC];simp only[cmStd,decide_eq_true_eq,Int.ofNat_eq_natCast];omega
 have e384:∀(m:Nat),m≤12→13-m≤m→CM .lt (Int.ofNat m) (Int.ofNat (13-m))=false:=by intro m hm h;rw[hC];simp only[cmStd,decide_eq_false_iff_not,Int.ofNat_eq_natCast];omega
 have e385:∀(m:Nat),m≤12→m<13-m→AR .sub .i64 13 (Int.ofNat (m+1))=Int.ofNat (12-m):=by intro m hm _;rw[hA];simp only[arStd,IntKind.wrap_i64,Int.ofNat_eq_natCast];omega
 have e386:∀(m:Nat),m≤12→CM .le (Int.ofNat m) 12=true:=by intro m hm;rw[hC];simp only[cmStd,decide_eq_true_eq,Int.ofNat_eq_natCast];omega
 have e387:∀(m:Nat),m≤12→CM .le (Int.ofNat (12-m)) 12=true:=by intro m hm;rw[hC];simp only[cmStd,decide_eq_true_eq,Int.ofNat_eq_natCast];omega
 cbv;repeat' first|exact O5|intro β;cbv|apply O4
 refine hU 2 (by decide+kernel) ?_;cbv;repeat' first|exact O5|intro β;cbv|apply O4
 repeat (any_goals (simp only[a1,c1,c2];try (cbv;repeat' first|exact O5|intro β;cbv|apply O4)))
 refine aD hN [0] (by decide) rfl ?_ ?_ (fun F'=>s374 (nn:=nn) (b:=b) (off:=off) (cap:=cap) (l:=DL d) (fun p h hp hh=>?_) F')
 ·rfl
 ·exact⟨rfl,trivial⟩
 rcases hh with rfl|rfl
 ·cbv;repeat' first|exact O5|intro β;cbv|apply O4
  repeat (any_goals (simp only[c3,c5,c7];try (cbv;repeat' first|exact O5|intro β;cbv|apply O4)))
  refine aD hN [0] (by decide) rfl ?_ ?_ (fun F'=>s379 (nn:=nn) (b:=b) (off:=off) (cap:=cap) (p:=p) hd hp DL hDL (fun m d1 r hm P1=>?_) F')
  ·rfl
  ·exact⟨rfl,trivial⟩
  have e1:=e379 m hm;have e2:=e380 m hm;have e3:=e381 m hm;obtain⟨m1,hm1⟩:∃m1,m1=m+1:=⟨_,rfl⟩;obtain⟨mr,hmr⟩:∃mr,mr=13-m:=⟨_,rfl⟩;rw[←hmr] at e2;rw[←hm1] at e3;rcases Nat.lt_or_ge m mr with g|g
  ·have e4:=e383 m hm (by omega);have e5:=e385 m hm (by omega);have e6:=e387 m hm;obtain⟨m2,hm2⟩:∃m2,m2=12-m:=⟨_,rfl⟩;rw[←hmr] at e4;rw[←hm1,←hm2] at e5;rw[←hm2] at e6;have hle1:0≤m:=Nat.zero_le _;have hle2:m1≤13:=by omega
   have hle3:13-m1≤12:=by omega
   have hle4:m≤13:=by omega
   have hle5:m-0≤12:=by omega
   clear hfin;cbv;repeat' first|exact O5|intro β;cbv|apply O4
   repeat (any_goals (simp only[e1,e2,e3,e382,e4];try (cbv;repeat' first|exact O5|intro β;cbv|apply O4)))
   refine aD hN [0] (by decide) rfl ?_ ?_ (fun F'=>zF (nn:=nn) (b:=b) (off:=off) (cap:=cap) (a:=0) (e:=m) (lim:=4) (d:=d1) P1.1 hle4 hle1 hle5 DL hDL (fun d2 P2=>?_) F')
   ·rfl
   ·exact⟨rfl,trivial⟩
   have hk:=fun d3 (P3:PM d2 d3)=>hKK d3 (part m d1 r hm P1 d3 ⟨P3.1,P3.2.trans P2.2⟩);cbv;repeat' first|exact O5|intro β;cbv|apply O4
   repeat (any_goals (simp only[e3,e5,e6];try (cbv;repeat' first|exact O5|intro β;cbv|apply O4)))
   refine aD hN [0] (by decide) rfl ?_ ?_ (fun F'=>zU (nn:=nn) (b:=b) (off:=off) (cap:=cap) (n:=13) (a:=m1) (e:=13) (l:=DL d2) (r:=DL (Sort.insertionSort Sort.ltInt d2 m1 13)) (by rw[hDL]) (by rw[hDL];simpa using P2.1) (Nat.le_refl _) hle2 (by omega) ?_ F')
   ·rfl
   ·exact⟨rfl,trivial⟩
   have hk2:=hk (Sort.insertionSort Sort.ltInt d2 m1 13) (jQ d2 m1 13 hle2 (by rw[P2.1];omega)|>.imp (fun h=>by rw[h,P2.1]) id);cbv;repeat' first|exact O5|intro β;cbv|apply O4
   refine hP [(0,0)] _ _ _ _ ?_ rfl ?_ hk2
   ·rfl
   ·exact⟨rfl,trivial⟩
  ·have e4:=e384 m hm (by omega);have e6:=e386 m hm;rw[←hmr] at e4;have hle1:m1≤13:=by omega
   have hle3:13-m1≤12:=by omega
   have hle4:m≤13:=by omega
   clear hfin;cbv;repeat' first|exact O5|intro β;cbv|apply O4
   repeat (any_goals (simp only[e1,e2,e3,e382,e4];try (cbv;repeat' first|exact O5|intro β;cbv|apply O4)))
   refine aD hN [0] (by decide) rfl ?_ ?_ (fun F'=>zF (nn:=nn) (b:=b) (off:=off) (cap:=cap) (a:=m1) (e:=13) (lim:=4) (d:=d1) P1.1 (Nat.le_refl _) hle1 hle3 DL hDL (fun d2 P2=>?_) F')
   ·rfl
   ·exact⟨rfl,trivial⟩
   have hk:=fun d3 (P3:PM d2 d3)=>hKK d3 (part m d1 r hm P1 d3 ⟨P3.1,P3.2.trans P2.2⟩);cbv;repeat' first|exact O5|intro β;cbv|apply O4
   repeat (any_goals (simp only[e1,e6];try (cbv;repeat' first|exact O5|intro β;cbv|apply O4)))
   refine aD hN [0] (by decide) rfl ?_ ?_ (fun F'=>zU (nn:=nn) (b:=b) (off:=off) (cap:=cap) (n:=13) (a:=0) (e:=m) (l:=DL d2) (r:=DL (Sort.insertionSort Sort.ltInt d2 0 m)) (by rw[hDL]) (by rw[hDL];simpa using P2.1) hle4 (Nat.zero_le _) (by omega) ?_ F')
   ·rfl
   ·exact⟨rfl,trivial⟩
   have hk2:=hk (Sort.insertionSort Sort.ltInt d2 0 m) (jQ d2 0 m (Nat.zero_le _) (by rw[P2.1];exact hle4)|>.imp (fun h=>by rw[h,P2.1]) id);cbv;repeat' first|exact O5|intro β;cbv|apply O4
   refine hP [(0,0)] _ _ _ _ ?_ rfl ?_ hk2
   ·rfl
   ·exact⟨rfl,trivial⟩
 ·cbv;repeat' first|exact O5|intro β;cbv|apply O4
  repeat (any_goals (simp only[c4,c6];try (cbv;repeat' first|exact O5|intro β;cbv|apply O4)))
  refine aD hN [0] (by decide) rfl ?_ ?_ (fun F'=>s376 (nn:=nn) (b:=b) (off:=off) (cap:=cap) (l:=DL d) (fun r=>?_) F')
  ·rfl
  ·exact⟨rfl,trivial⟩
  cases r with
  |true=>
   cbv;repeat' first|exact O5|intro β;cbv|apply O4
   refine hP [(0,0)] _ _ _ _ ?_ rfl ?_ hk0
   ·rfl
   ·exact⟨rfl,trivial⟩
  |false=>
   cbv;repeat' first|exact O5|intro β;cbv|apply O4
   repeat (any_goals (simp only[c7];try (cbv;repeat' first|exact O5|intro β;cbv|apply O4)))
   refine aD hN [0] (by decide) rfl ?_ ?_ (fun F'=>s379 (nn:=nn) (b:=b) (off:=off) (cap:=cap) (p:=p) hd hp DL hDL (fun m d1 r hm P1=>?_) F')
   ·rfl
   ·exact⟨rfl,trivial⟩
   have e1:=e379 m hm;have e2:=e380 m hm;have e3:=e381 m hm;obtain⟨m1,hm1⟩:∃m1,m1=m+1:=⟨_,rfl⟩;obtain⟨mr,hmr⟩:∃mr,mr=13-m:=⟨_,rfl⟩;rw[←hmr] at e2;rw[←hm1] at e3;rcases Nat.lt_or_ge m mr with g|g
   ·have e4:=e383 m hm (by omega);have e5:=e385 m hm (by omega);have e6:=e387 m hm;obtain⟨m2,hm2⟩:∃m2,m2=12-m:=⟨_,rfl⟩;rw[←hmr] at e4;rw[←hm1,←hm2] at e5;rw[←hm2] at e6;have hle1:0≤m:=Nat.zero_le _;have hle2:m1≤13:=by omega
    have hle3:13-m1≤12:=by omega
    have hle4:m≤13:=by omega
    have hle5:m-0≤12:=by omega
    clear hfin;cbv;repeat' first|exact O5|intro β;cbv|apply O4
    repeat (any_goals (simp only[e1,e2,e3,e382,e4];try (cbv;repeat' first|exact O5|intro β;cbv|apply O4)))
    refine aD hN [0] (by decide) rfl ?_ ?_ (fun F'=>zF (nn:=nn) (b:=b) (off:=off) (cap:=cap) (a:=0) (e:=m) (lim:=4) (d:=d1) P1.1 hle4 hle1 hle5 DL hDL (fun d2 P2=>?_) F')
    ·rfl
    ·exact⟨rfl,trivial⟩
    have hk:=fun d3 (P3:PM d2 d3)=>hKK d3 (part m d1 r hm P1 d3 ⟨P3.1,P3.2.trans P2.2⟩);cbv;repeat' first|exact O5|intro β;cbv|apply O4
    repeat (any_goals (simp only[e3,e5,e6];try (cbv;repeat' first|exact O5|intro β;cbv|apply O4)))
    refine aD hN [0] (by decide) rfl ?_ ?_ (fun F'=>zU (nn:=nn) (b:=b) (off:=off) (cap:=cap) (n:=13) (a:=m1) (e:=13) (l:=DL d2) (r:=DL (Sort.insertionSort Sort.ltInt d2 m1 13)) (by rw[hDL]) (by rw[hDL];simpa using P2.1) (Nat.le_refl _) hle2 (by omega) ?_ F')
    ·rfl
    ·exact⟨rfl,trivial⟩
    have hk2:=hk (Sort.insertionSort Sort.ltInt d2 m1 13) (jQ d2 m1 13 hle2 (by rw[P2.1];omega)|>.imp (fun h=>by rw[h,P2.1]) id);cbv;repeat' first|exact O5|intro β;cbv|apply O4
    refine hP [(0,0)] _ _ _ _ ?_ rfl ?_ hk2
    ·rfl
    ·exact⟨rfl,trivial⟩
   ·have e4:=e384 m hm (by omega);have e6:=e386 m hm;rw[←hmr] at e4;have hle1:m1≤13:=by omega
    have hle3:13-m1≤12:=by omega
    have hle4:m≤13:=by omega
    clear hfin;cbv;repeat' first|exact O5|intro β;cbv|apply O4
    repeat (any_goals (simp only[e1,e2,e3,e382,e4];try (cbv;repeat' first|exact O5|intro β;cbv|apply O4)))
    refine aD hN [0] (by decide) rfl ?_ ?_ (fun F'=>zF (nn:=nn) (b:=b) (off:=off) (cap:=cap) (a:=m1) (e:=13) (lim:=4) (d:=d1) P1.1 (Nat.le_refl _) hle1 hle3 DL hDL (fun d2 P2=>?_) F')
    ·rfl
    ·exact⟨rfl,trivial⟩
    have hk:=fun d3 (P3:PM d2 d3)=>hKK d3 (part m d1 r hm P1 d3 ⟨P3.1,P3.2.trans P2.2⟩);cbv;repeat' first|exact O5|intro β;cbv|apply O4
    repeat (any_goals (simp only[e1,e6];try (cbv;repeat' first|exact O5|intro β;cbv|apply O4)))
    refine aD hN [0] (by decide) rfl ?_ ?_ (fun F'=>zU (nn:=nn) (b:=b) (off:=off) (cap:=cap) (n:=13) (a:=0) (e:=m) (l:=DL d2) (r:=DL (Sort.insertionSort Sort.ltInt d2 0 m)) (by rw[hDL]) (by rw[hDL];simpa using P2.1) hle4 (Nat.zero_le _) (by omega) ?_ F')
    ·rfl
    ·exact⟨rfl,trivial⟩
    have hk2:=hk (Sort.insertionSort Sort.ltInt d2 0 m) (jQ d2 0 m (Nat.zero_le _) (by rw[P2.1];exact hle4)|>.imp (fun h=>by rw[h,P2.1]) id);cbv;repeat' first|exact O5|intro β;cbv|apply O4
    refine hP [(0,0)] _ _ _ _ ?_ rfl ?_ hk2
    ·rfl
    ·exact⟨rfl,trivial⟩
theorem s300p {b off cap n nn:Nat} {l:List Int} {K:SV→List C→Prop} (hl:l.length=n) (hn:n≤13)
  (hKK:∀r:List Int,r.Perm l→K (.tup []) [.prd (.mr 22 .u64 nn b off cap n r)]) (F:HProp):
  inS Tryz.prog F 300 [.sl 0 nn b off n cap] [.prd (.mr 22 .u64 nn b off cap n l)] K:=by
 rcases Nat.lt_or_ge n 13 with h|h
 ·exact rF (r:=srtI l) (dM l).symm hl (by omega) (hKK _ (List.mergeSort_perm l _)) F
 obtain rfl:n=13:=by omega
 obtain⟨DL,hDL⟩:∃DL:Array Int→List Int,DL=fun d=>d.toList:=⟨_,rfl⟩;obtain⟨d,hd⟩:∃d:Array Int,d=l.toArray:=⟨_,rfl⟩;have e:l=DL d:=by rw[hDL,hd]
 have hs:d.size=13:=by rw[hd];simpa using hl
 have hk:∀d',PM d d'→K (.tup []) [.prd (.mr 22 .u64 nn b off cap 13 (DL d'))]:=fun d' h=>hKK _ (by rw[hDL];exact h.2.trans (by rw[hd]));rw[e];clear hKK hl;refine aF ⟨false,false⟩ (fun _=>[]) (fun _=>.nil) Tryz.func300 Tryz.ntmps300 rfl rfl ?_;intros;rename_i AR hA _ _ _ _ _ _ _ _ _ _ _ _ hN _ hP;have hcv:AR .conv .u64 (Int.ofNat 13) 0=Int.ofNat 13:=by rw[hA];rfl
 cbv;repeat' first|exact O5|intro β;cbv|apply O4
 simp only[hcv];refine aD hN [] (by decide) rfl ?_ ?_ (fun F'=>s348x ?_ F')
 ·rfl
 ·trivial
 cbv;repeat' first|exact O5|intro β;cbv|apply O4
 refine aD hN [0] (by decide) rfl ?_ ?_ (fun F'=>s347x (nn:=nn) (b:=b) (off:=off) (cap:=cap) hs DL hDL (fun d2 P2=>?_) F')
 ·rfl
 ·exact⟨rfl,trivial⟩
 have hk2:=hk d2 P2;cbv;repeat' first|exact O5|intro β;cbv|apply O4
 refine hP [(0,0)] _ _ _ _ ?_ rfl ?_ hk2
 ·rfl
 ·exact⟨rfl,trivial⟩
end Go.Sx
