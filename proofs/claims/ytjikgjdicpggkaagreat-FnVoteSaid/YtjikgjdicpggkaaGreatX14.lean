import Derived.Test.YtjikgjdicpggkaaGreatX13
set_option autoImplicit true
set_option relaxedAutoImplicit true
set_option linter.all false
set_option maxRecDepth 100000
set_option maxHeartbeats 4000000
namespace Go.Sx
open Go Go.Proofs
theorem s371T {T:TypeId} {b off cap n:Nat} {nn a e:Nat} {l r:List Int} {K:SV→List C→Prop} (hr:r=(Sort.insertionSort Sort.ltInt l.toArray a e).toList)
  (hl:l.length=n) (he:e≤n) (ha:a≤n) (hn:n≤100000)
  (hKK:K (.tup []) [.prd (.mr T .u64 nn b off cap n r)]) (F:HProp):
  inS Tryz.prog F 371 [.sl 0 nn b off n cap,.i .i64 (Int.ofNat a),.i .i64 (Int.ofNat e)] [.prd (.mr T .u64 nn b off cap n l)] K:=by
 obtain⟨DL,hDL⟩:∃DL:Array Int→List Int,DL=fun d=>d.toList:=⟨_,rfl⟩;obtain⟨d0,hd0⟩:∃d0:Array Int,d0=l.toArray:=⟨_,rfl⟩;rw[←hd0] at hr;refine aF ⟨false,false⟩ (fun TX=>[wQ TX]) (fun _=>(.cons xG .nil)) Tryz.func371 Tryz.ntmps371 rfl rfl ?_;intros;rename_i NI hNI _ _ _ _ _ _ TX hTX _ _ AR hA CM hC _ _ _ _ _ _ _ _ hL _ _ _ hP;obtain⟨tz,tl,tt,to,ap⟩:=TX;have hap:∀{α β:Type} (f:α→β) (x:α),ap f x=f x:=fun f x=>congrArg (fun t:TF=>t.ap f x) hTX;have hadd:∀i:Nat,i≤n→AR .add .i64 (Int.ofNat i) 1=Int.ofNat (i+1):=by intro i hi;rw[hA];exact fU (by omega)
 have hsub:∀i:Nat,i<n→AR .sub .i64 (Int.ofNat (i+1)) 1=Int.ofNat i:=by intro i hi;rw[hA];simp only[arStd,IntKind.wrap_i64,Int.ofNat_eq_natCast];omega
 have hlt:∀x y,OLt x y (ap sD (x,y)):=by intro x y;rw[hap];exact⟨rfl⟩
 cbv;repeat' first|exact O5|intro β;cbv|apply O4
 rw[hadd a ha];refine hL _ {x:Nat×Array Int//(x.1≤e∨x.1=a+1)∧x.2.size=n∧Sort.insOuter Sort.ltInt a e x.1 x.2=Sort.insertionSort Sort.ltInt d0 a e}
  (fun x j=>eO 49 j [(0,.sl 0 nn b off n cap),(1,.i .i64 a),(2,.i .i64 e),(6,.i .i64 x.1.1)])
  (fun x=>[.prd (.mr T .u64 nn b off cap n (DL x.1.2))]) (fun x=>e-x.1.1) ⟨(a+1,d0),.inr rfl,by rw[hd0];simpa using hl,rfl⟩ [(0,0)] _ _ (by decide+kernel) ?_ ?_
 ·have:DL d0=l:=by rw[hDL,hd0]
  refine⟨rfl,rfl,rfl,⟨?_,trivial⟩⟩;show Pay.mr T .u64 nn b off cap n l=Pay.mr T .u64 nn b off cap n (DL d0);rw[this]
 rintro⟨⟨i,d⟩,hi,hs,hd⟩ j LP hsat2 hLP hX hR;change i≤e∨i=a+1 at hi;change d.size=n at hs;change Sort.insOuter Sort.ltInt a e i d=_ at hd;rcases Nat.lt_or_ge i e with h|h
 ·have h5:CM .lt (Int.ofNat i) (Int.ofNat e)=true:=by rw[hC];simp[cmStd,h]
  cbv;repeat' first|exact O5|intro β;cbv|apply O4
  rw[h5];cbv;repeat' first|exact O5|intro β;cbv|apply O4
  refine hL _ {x:Nat×Array Int//x.1≤i∧x.2.size=n∧Sort.insInner Sort.ltInt a x.1 x.2=Sort.insInner Sort.ltInt a i d}
   (fun x j=>eO 49 j [(0,.sl 0 nn b off n cap),(1,.i .i64 a),(2,.i .i64 e),(6,.i .i64 i),(7,.i .i64 x.1.1)])
   (fun x=>[.prd (.mr T .u64 nn b off cap n (DL x.1.2))]) (fun x=>x.1.1) ⟨(i,d),Nat.le_refl _,hs,rfl⟩ [(0,0)] _ _ (by decide+kernel) ⟨rfl,rfl,rfl,⟨rfl,trivial⟩⟩ ?_
  rintro⟨⟨k,d'⟩,hk,hs',hd'⟩ j2 LP2 hsat3 hLP2 hX2 hR2;change k≤i at hk;change d'.size=n at hs';change Sort.insInner Sort.ltInt a k d'=_ at hd';have nxt:d'=Sort.insInner Sort.ltInt a i d→Sort.insOuter Sort.ltInt a e (i+1) d'=Sort.insertionSort Sort.ltInt d0 a e:=by
   intro h2;rw[←hd,h2]
   conv=>rhs;rw[Sort.insOuter,if_pos h]
  rcases Nat.lt_or_ge a k with hka|hka
  ·have h6:CM .lt (Int.ofNat a) (Int.ofNat k)=true:=by rw[hC];simp[cmStd,hka]
   obtain⟨k',hk'⟩:∃k',k=k'+1:=⟨k-1,by omega⟩;have hsb:AR .sub .i64 (Int.ofNat k) 1=Int.ofNat k':=by rw[hk'];exact hsub k' (by omega)
   have b1:CM .le 0 (Int.ofNat k)=true:=by rw[hC];simp[cmStd]
   have b2:CM .lt (Int.ofNat k) (Int.ofNat n)=true:=by rw[hC];simp[cmStd];omega
   have b3:CM .le 0 (Int.ofNat k')=true:=by rw[hC];simp[cmStd]
   have b4:CM .lt (Int.ofNat k') (Int.ofNat n)=true:=by rw[hC];simp[cmStd];omega
   cbv;repeat' first|exact O5|intro β;cbv|apply O4
   rw[h6];cbv;repeat' first|exact O5|intro β;cbv|apply O4
   all_goals simp only[hsb]
   all_goals try assumption
   all_goals try exact hlt _ _
   obtain⟨q,hq⟩:∃q,ap sD (NI (DL d') k,NI (DL d') k')=q:=⟨_,rfl⟩;have hq2:q=decide (d'[k]!<d'[k']!):=by rw[←hq,hap,hNI,hDL];show decide (dI d'.toList k<dI d'.toList k')=_;rw[sF (by omega),sF (by omega)]
   rw[hq];cases q with
   |true=>
    cbv;repeat' first|exact O5|intro β;cbv|apply O4
    all_goals simp only[hsb]
    all_goals try assumption
    have hsw:ap nP (ap nP (DL d',k,NI (DL d') k'),k',NI (DL d') k)=DL (Sort.swp d' k k'):=by rw[hap,hap,hNI,hDL];exact qK d' k k' (by omega) (by omega)
    rw[hsw];refine hLP2 ⟨(k',Sort.swp d' k k'),by show k'≤i;omega,by show (Sort.swp d' k k').size=n;rw[pT];exact hs',?_⟩ [(0,0)] _ (by show k'<k;omega) ⟨rfl,rfl,rfl,⟨rfl,trivial⟩⟩;show Sort.insInner Sort.ltInt a k' (Sort.swp d' k k')=_;rw[←hd',hk',Sort.insInner,if_pos];have h8:k'+1>a:=by omega
    rw[Bool.and_eq_true];exact⟨decide_eq_true h8,by rw[←hk'];exact hq2.symm⟩
   |false=>
    cbv;repeat' first|exact O5|intro β;cbv|apply O4
    apply hX2;cbv;repeat' first|exact O5|intro β;cbv|apply O4
    rw[hadd i (by omega)];have hfin:d'=Sort.insInner Sort.ltInt a i d:=by rw[←hd',hk',Sort.insInner,if_neg];simp only[Sort.ltInt,←hk'];rw[←hq2];simp
    exact hLP ⟨(i+1,d'),.inl (by show i+1≤e;omega),hs',nxt hfin⟩ [(0,0)] _ (by show e-(i+1)<e-i;omega) ⟨rfl,rfl,rfl,⟨rfl,trivial⟩⟩
  ·have h6:CM .lt (Int.ofNat a) (Int.ofNat k)=false:=by rw[hC];simp[cmStd];omega
   cbv;repeat' first|exact O5|intro β;cbv|apply O4
   rw[h6];cbv;repeat' first|exact O5|intro β;cbv|apply O4
   apply hX2;cbv;repeat' first|exact O5|intro β;cbv|apply O4
   rw[hadd i (by omega)];have hfin:d'=Sort.insInner Sort.ltInt a i d:=by
    rw[←hd'];cases k with
    |zero=>rfl|succ k=>
     rw[Sort.insInner,if_neg];have:¬(k+1>a):=by omega
     simp[this]
   exact hLP ⟨(i+1,d'),.inl (by show i+1≤e;omega),hs',nxt hfin⟩ [(0,0)] _ (by show e-(i+1)<e-i;omega) ⟨rfl,rfl,rfl,⟨rfl,trivial⟩⟩
 ·have h5:CM .lt (Int.ofNat i) (Int.ofNat e)=false:=by rw[hC];simp[cmStd];omega
  cbv;repeat' first|exact O5|intro β;cbv|apply O4
  rw[h5];cbv;repeat' first|exact O5|intro β;cbv|apply O4
  apply hX;cbv;repeat' first|exact O5|intro β;cbv|apply O4
  have hfin:r=DL d:=by rw[hr,←hd,hDL,Sort.insOuter,if_neg (by omega)]
  refine hP [(0,0)] _ _ _ _ ?_ rfl ?_ hKK
  ·rfl
  ·refine⟨?_,trivial⟩;show Pay.mr T .u64 nn b off cap n (DL d)=Pay.mr T .u64 nn b off cap n r;rw[hfin]
theorem s300T {T:TypeId} {b off cap n nn:Nat} {l r:List Int} {K:SV→List C→Prop} (hr:r=(Sort.sort Sort.ltInt l.toArray).toList) (hl:l.length=n) (hn:n≤12)
  (hKK:K (.tup []) [.prd (.mr T .u64 nn b off cap n r)]) (F:HProp):
  inS Tryz.prog F 300 [.sl 0 nn b off n cap] [.prd (.mr T .u64 nn b off cap n l)] K:=by
 have hr2:r=(Sort.insertionSort Sort.ltInt l.toArray 0 n).toList:=by rw[hr,Sort.sort,Sort.pdq,if_pos (by simpa using by omega)];simp[hl]
 refine aF ⟨false,false⟩ (fun _=>[]) (fun _=>.nil) Tryz.func300 Tryz.ntmps300 rfl rfl ?_;intros;rename_i AR hA CM hC _ _ _ _ _ _ hU hI _ _ hN _ hP;have hcv:AR .conv .u64 (Int.ofNat n) 0=Int.ofNat n:=by rw[hA];show IntKind.u64.wrap _=_;rw[IntKind.wrap_u64];simp only[Int.ofNat_eq_natCast];omega
 have hsb:AR .sub .i64 (Int.ofNat n) 0=Int.ofNat n:=by rw[hA];simp only[arStd,IntKind.wrap_i64,Int.ofNat_eq_natCast];omega
 have c1:CM .le (Int.ofNat n) 12=true:=by rw[hC];simp[cmStd];omega
 cbv;repeat' first|exact O5|intro β;cbv|apply O4
 rw[hcv];refine aD hN [] (by decide) rfl ?_ ?_ (fun F'=>L8 (x:=Int.ofNat n) (by simp) (by simp;omega) (fun y=>?_) F')
 ·rfl
 ·trivial
 cbv;repeat' first|exact O5|intro β;cbv|apply O4
 refine inl @hI Tryz.func347 Tryz.ntmps347 rfl rfl ?_;cbv;repeat' first|exact O5|intro β;cbv|apply O4
 refine hU 1 (by decide+kernel) ?_;cbv;repeat' first|exact O5|intro β;cbv|apply O4
 rw[hsb];cbv;repeat' first|exact O5|intro β;cbv|apply O4
 rw[c1];cbv;repeat' first|exact O5|intro β;cbv|apply O4
 refine aD hN [0] (by decide) rfl ?_ ?_ (fun F'=>s371T (T:=T) (nn:=nn) (b:=b) (off:=off) (cap:=cap) (n:=n) (a:=0) (e:=n) (l:=l) hr2 hl (Nat.le_refl _) (Nat.zero_le _) (by omega) ?_ F')
 ·rfl
 ·exact⟨rfl,trivial⟩
 cbv;repeat' first|exact O5|intro β;cbv|apply O4
 refine hP [(0,0)] _ _ _ _ ?_ rfl ?_ hKK
 ·rfl
 ·exact⟨rfl,trivial⟩
theorem s300q {T:TypeId} {b off cap n nn:Nat} {l:List Int} {K:SV→List C→Prop} (hl:l.length=n) (hn:n≤12)
  (hKK:∀r:List Int,r.Perm l→K (.tup []) [.prd (.mr T .u64 nn b off cap n r)]) (F:HProp):
  inS Tryz.prog F 300 [.sl 0 nn b off n cap] [.prd (.mr T .u64 nn b off cap n l)] K:=
 s300T (r:=srtI l) (dM l).symm hl hn (hKK _ (List.mergeSort_perm l _)) F
theorem D9:∀(l m:List Int),l.Nodup→(∀x∈l,x∈m)→l.length≤m.length
 |[],_,_,_=>Nat.zero_le _|x::l,m,h,hs=>by
  have hx:=hs x (List.mem_cons_self ..);have h2:=List.nodup_cons.1 h
  have:=D9 l (m.erase x) h2.2 (fun y hy=>by
   have hne:y≠x:=fun e=>h2.1 (e▸hy)
   exact(List.mem_erase_of_ne hne).2 (hs y (List.mem_cons_of_mem _ hy)))
  rw[List.length_erase_of_mem hx] at this;have hm:0<m.length:=List.length_pos_of_mem hx;simp only[List.length_cons];omega
def AV (x:RF) (lv:SV):List SV:=[.hv 1 (.map (some x.vb)),.v (.map none),.bl false,lv,.v (.map none),.hv 2 (.map (some x.pb))]
theorem TrkOK.upd {V L:List Int} {l1 l2:MQ} {k:Int} {blk:Nat} {c:Option (List SV)} (h:TrkOK V L (l1++(k,blk,c)::l2)) (u:Nat→Value) (hu:∀i,(u i).oneCell'=true):TrkOK V L (l1++(k,blk,some (lH u (decide (k∈L))))::l2):=by
 have e:∀a b:Option (List SV),keysq (l1++(k,blk,a)::l2)=keysq (l1++(k,blk,b)::l2):=by
  intro a b;clear h;induction l1 with
  |nil=>rfl|cons x r ih=>simp only[List.cons_append,keysq,ih]
 refine⟨fun y=>by rw[e _ c];exact h.keys y,h.disj,fun x hx=>?_⟩;rcases List.mem_append.1 hx with h1|h1
 ·exact h.cl x (List.mem_append_left _ h1)
 ·rcases List.mem_cons.1 h1 with h2|h2
  ·subst h2;exact⟨u,rfl,hu⟩
  ·exact h.cl x (List.mem_append_right _ (List.mem_cons_of_mem _ h2))
def prU (m nx:Int) (ib:Nat):Nat→Value
 |0=>.int .u64 m|1=>.int .u64 nx|2=>.int .u64 0|3=>.int .u64 0|4=>.int .u64 0|5=>.bool false|6=>.bool false|_=>.pointer (some ⟨ib,0,none⟩)
theorem oW (m nx:Int) (ib:Nat) (i:Nat):(prU m nx ib i).oneCell'=true:=by unfold prU;split<;>rfl
theorem yO {x:RF} {lf:Bool} {lv tkv st zz:SV} {V L:List Int} {P':MQ} {s:STO} {rb lo:Nat} {off:Int} {r:Nat→SV} {C1 C3 C5 C6 C7:C} {K:SV→List C→Prop} (hT:TrkOK V L P') (hVL:V.length+L.length≤13)
  (hs0:0≤s.i0) (hs1:s.i0≤1099511627776) (hsn1:1≤s.n) (hsn2:s.n≤100000)
  (hKK:∀(P2:MQ) (d2:Int),TrkOK V L P2→K (.tup []) [DT x (AV x lv) lf tkv st zz,C1,.prd (.mp x.pb (.ptrs 410 P2) none),C3,oO x.lb 8 s.b r,C5,C6,C7,STO.raw {s with c2:=d2} 9,s.row,.raw true rb 239 [.ptr 0 x.b 0]]) (F:HProp):
  inS Tryz.prog F 282 [.ptr 0 x.b 7,.fn (.func 292) [] [.ptr 10 rb 0]]
   [DT x (AV x lv) lf tkv st zz,C1,.prd (.mp x.pb (.ptrs 410 P') none),C3,oO x.lb 8 s.b r,C5,C6,C7,s.raw 9,s.row,.raw true rb 239 [.ptr 0 x.b 0]] K:=by
 obtain⟨b,id,term,vote,lb,ms,vb,pb,wb,mi,lead,cq,pv,ht,et,rt,nf,sd,ob,nx⟩:=x;obtain⟨sb,hs,sn',nn,eb,off,cap,n,k0,k1,k2,k3,k4,k5,sp,t0,i0,f3,f4,es⟩:=s;change 0≤i0 at hs0;change i0≤1099511627776 at hs1;change 1≤n at hsn1;change n≤100000 at hsn2;refine aF ⟨false,false⟩ (fun TX=>[vB TX,IH]) (fun _=>(.cons uH (.cons KL .nil))) Tryz.func282 Tryz.ntmps282 rfl rfl ?_;intros;rename_i kq hkq _ _ _ _ rep hrep tk htk _ _ op hop _ _ ln hln _ _ _ _ _ _ _ _ _ _ NI hNI _ _ _ hE _ _ TX hTX _ _ AR hA CM hC _ _ _ _ _ _ hU hI hL _ hN hsat hP;have hnd:=iH 2 hsat rfl;obtain⟨tz,tls,tt,to,apx⟩:=TX;have hap:∀{α β:Type} (f:α→β) (x:α),apx f x=f x:=fun f x=>congrArg (fun t:TF=>t.ap f x) hTX;have p0:∀k,gT k (apx bQ k):=fun k=>⟨by rw[hap];rfl⟩;have o2:xF i0 n (apx dK (i0,n)):=⟨hs0,by omega,by rw[hap];rfl,hsn1⟩;have hN13:(keysq P').length≤13:=by have:=D9 (keysq P') (V++L) hnd (fun y hy=>List.mem_append.2 ((hT.keys y).1 hy));rw[List.length_append] at this;omega
 obtain⟨N,hNN⟩:∃N,ln (kq P')=N:=⟨_,rfl⟩;have hNl:N=(keysq P').length:=by rw[←hNN,hln,hkq]
 have hN13':N≤13:=by omega
 have hcN:CM .le 0 (Int.ofNat N)=true:=by rw[hC];simp[cmStd]
 cbv;repeat' first|exact O5|intro β;cbv|apply O4|apply p0;done
 simp only[hNN];rcases Nat.lt_or_ge N 8 with g|g
 ·have c1:CM .le (Int.ofNat N) 7=true:=by rw[hC];simp[cmStd];omega
  cbv;repeat' first|exact O5|intro β;cbv|apply O4|apply p0;done
  repeat (any_goals (simp only[c1,hNN];try (cbv;repeat' first|exact O5|intro β;cbv|apply O4|apply p0;done)))
  rename_i bA;rename Nat=>rr;obtain⟨R0,hR0⟩:∃R0,R0=tk [0,0,0,0,0,0,0] N:=⟨_,rfl⟩;have hR0l:R0.length=N:=by rw[hR0,htk];simp;omega
  rw[←hR0];refine hL _ {x:Option Int×List Int×Nat×List Int//(kq P').Perm (x.2.2.2.drop x.2.2.1++x.2.1)∧x.2.1.length=x.2.2.1∧x.2.2.2.length=N∧x.2.2.1≤N} (fun x j=>eO 54 j [(0,.ptr 0 b 7),(1,.fn (.func 292) [] [.ptr 10 rb 0]),(4,.i .i64 (Int.ofNat x.1.2.2.1)),(6,.sl 11 1 (bA 0) 0 N 7),(25,.ptr 2 rr 0)])
   (fun x=>[DT ⟨b,id,term,vote,lb,ms,vb,pb,wb,mi,lead,cq,pv,ht,et,rt,nf,sd,ob,nx⟩ (AV ⟨b,id,term,vote,lb,ms,vb,pb,wb,mi,lead,cq,pv,ht,et,rt,nf,sd,ob,nx⟩ lv) lf tkv st zz,C1,.prd (.mp pb (.ptrs 410 P') (some (rr,x.1.1,x.1.2.1))),C3,oO lb 8 sb r,C5,C6,C7,STO.raw ⟨sb,hs,sn',nn,eb,off,cap,n,k0,k1,k2,k3,k4,k5,sp,t0,i0,f3,f4,es⟩ 9,STO.row ⟨sb,hs,sn',nn,eb,off,cap,n,k0,k1,k2,k3,k4,k5,sp,t0,i0,f3,f4,es⟩,.raw true rb 239 [.ptr 0 b 0],.prd (.mr 449 .u64 1 (bA 0) 0 7 N x.1.2.2.2)])
   (fun x=>x.1.2.1.length) ⟨(none,kq P',N,R0),by show (kq P').Perm (R0.drop N++kq P');rw[List.drop_of_length_le (Nat.le_of_eq hR0l)];exact List.Perm.refl _,by show (kq P').length=N;rw[hkq];exact hNl.symm,hR0l,Nat.le_refl _⟩ [(0,0),(1,0),(2,0),(3,0),(4,0),(5,0),(6,0),(7,0),(8,0),(9,0),(10,0),(11,0)] _ _ (by decide+kernel) ⟨rfl,rfl,rfl,aP⟩ ?_
  rintro⟨⟨cur,lfs,m,R⟩,hp,hlm,hRl,hmN⟩ js LP hsat2 hLP hX hR2;change (kq P').Perm (R.drop m++lfs) at hp;change lfs.length=m at hlm;change R.length=N at hRl;change m≤N at hmN;cbv;refine⟨fun h0=>?_,fun k lf' y hq=>?_⟩
  ·subst h0;have hm0:m=0:=by rw[←hlm];rfl
   have hpR:(kq P').Perm R:=by rw[hm0] at hp;simpa using hp
   have hPR:∀k,k∈R→k∈V∨k∈L:=fun k hk=>(hT.keys k).1 (by rw[hkq] at hpR;exact hpR.mem_iff.2 hk);cbv;apply hX;cbv;repeat' first|exact O5|intro β;cbv|apply O4|apply p0;done
   refine aD hN [11] (by decide) rfl ?_ ?_ (fun F'=>s300q (T:=449) (nn:=1) (b:=(bA 0)) (off:=0) (cap:=7) (n:=N) (l:=R) hRl (by omega) (fun R1 hR1=>?_) F')
   ·rfl
   ·exact⟨rfl,trivial⟩
   have hPR1:∀k,k∈R1→k∈V∨k∈L:=fun k hk=>hPR k (hR1.mem_iff.1 hk);have hR1l:R1.length=N:=by rw[hR1.length_eq];exact hRl
   cbv;repeat' first|exact O5|intro β;cbv|apply O4|apply p0;done
   refine hL _ {x:Nat×MQ×Int//x.1≤N∧TrkOK V L x.2.1} (fun x j=>eO 54 j [(0,.ptr 0 b 7),(1,.fn (.func 292) [] [.ptr 10 rb 0]),(38,.sl 11 1 (bA 0) 0 N 7),(39,.i .i64 (Int.ofNat N)),(40,.i .i64 (Int.ofNat x.1.1))])
    (fun x=>[DT ⟨b,id,term,vote,lb,ms,vb,pb,wb,mi,lead,cq,pv,ht,et,rt,nf,sd,ob,nx⟩ (AV ⟨b,id,term,vote,lb,ms,vb,pb,wb,mi,lead,cq,pv,ht,et,rt,nf,sd,ob,nx⟩ lv) lf tkv st zz,C1,.prd (.mp pb (.ptrs 410 x.1.2.1) none),C3,oO lb 8 sb r,C5,C6,C7,STO.raw ⟨sb,hs,sn',nn,eb,off,cap,n,k0,k1,x.1.2.2,k3,k4,k5,sp,t0,i0,f3,f4,es⟩ 9,STO.row ⟨sb,hs,sn',nn,eb,off,cap,n,k0,k1,k2,k3,k4,k5,sp,t0,i0,f3,f4,es⟩,.raw true rb 239 [.ptr 0 b 0],.prd (.mr 449 .u64 1 (bA 0) 0 7 N R1)])
    (fun x=>N-x.1.1) ⟨(0,P',k2),Nat.zero_le _,hT⟩ [(0,0),(1,0),(2,4),(3,0),(4,0),(5,0),(6,0),(7,0),(8,0),(9,0),(10,0),(11,0)] _ _ (by decide+kernel) ⟨rfl,rfl,rfl,(by cbv;repeat' first|exact lg|apply O4|exact dR _ _ _|(simp;done))⟩ ?_
   clear hLP hX hR2 hsat2;rintro⟨⟨i,Pc,q2⟩,hi,hTc⟩ js2 LP2 hsat2 hLP hX hR2;change i≤N at hi;change TrkOK V L Pc at hTc;have hk:=hKK Pc q2 hTc;rcases Nat.lt_or_ge i N with hi2|hi2
   ·have a1:CM .lt (Int.ofNat i) (Int.ofNat N)=true:=by rw[hC];simp only[cmStd,decide_eq_true_eq,Int.ofNat_eq_natCast];omega
    have a2:CM .le 0 (Int.ofNat i)=true:=by rw[hC];simp[cmStd]
    have a3:AR .add .i64 (Int.ofNat i) 1=Int.ofNat (i+1):=by rw[hA];exact fU (by omega)
    obtain⟨i',hi'⟩:∃i',i'=i+1:=⟨_,rfl⟩;rw[←hi'] at a3;obtain⟨k,hkk⟩:∃k,NI R1 i=k:=⟨_,rfl⟩;have hkR:k∈R1:=by rw[←hkk,hNI];exact List.mem_of_getElem? (cO (by omega:i<R1.length))
    have hkVL:=hPR1 k hkR;cbv;repeat' first|exact O5|intro β;cbv|apply O4|apply p0;done
    repeat (any_goals (simp only[a1,a2,hkk];try (cbv;repeat' first|exact O5|intro β;cbv|apply O4|apply p0;done)))
    ·rename_i l1 blk cs l2;have hPe:Pc=l1++(k,blk,some cs)::l2:=by rw[←hkk];exact β
     obtain⟨u,hu,hu1⟩:=hTc.get1 hPe;subst hu;obtain⟨lfk,hlfk⟩:∃f,f=decide (k∈L):=⟨_,rfl⟩;rw[←hlfk];rw[hPe] at hTc;have hgen:∀u:Nat→Value,(∀i,(u i).oneCell'=true)→∃P2,TrkOK V L P2∧∀cs:List SV,SV.dens cs=SV.dens (lH u lfk)→eF [.prd (.mp pb (.ptrs 410 (op l1 k blk l2)) none),.raw true blk 410 cs] (.prd (.mp pb (.ptrs 410 P2) none)):=fun u h=>
      ⟨l1++(k,blk,some (lH u lfk))::l2,by rw[hlfk];exact hTc.upd u h,fun cs h2=>by rw[hop];exact bN pb 410 l1 l2 k blk cs (lH u lfk) none h2⟩
     clear hPe;rcases hce:CM .eq k id with _|_
     ·refine inl @hI Tryz.func292 Tryz.ntmps292 rfl rfl ?_;cbv;repeat' first|exact O5|intro β;cbv|apply O4|apply p0;done
      repeat (any_goals (simp only[hce,a3];try (cbv;repeat' first|exact O5|intro β;cbv|apply O4|apply p0;done)))
      rename Nat→Nat→Nat=>bI;obtain⟨P2,hTP,hE⟩:=hgen (prU 0 (AR .add .u64 (apx dK (i0,n)) 1) (bI 17 0)) (oW _ _ _);exact hLP ⟨(i',P2,apx bQ q2),by show i'≤N;omega,hTP⟩ [(0,0),(1,0),(2,18),(3,0),(4,0),(5,0),(6,0),(7,0),(8,0),(9,0),(10,0),(11,0)] _ (by show N-i'<N-i;omega) ⟨rfl,rfl,rfl,(by cbv;repeat' first|exact lg|apply O4|exact hE _ rfl|(simp;done))⟩
     ·refine inl @hI Tryz.func292 Tryz.ntmps292 rfl rfl ?_;cbv;repeat' first|exact O5|intro β;cbv|apply O4|apply p0;done
      repeat (any_goals (simp only[hce,a3];try (cbv;repeat' first|exact O5|intro β;cbv|apply O4|apply p0;done)))
      rename Nat→Nat→Nat=>bI;obtain⟨P2,hTP,hE⟩:=hgen (prU (apx dK (i0,n)) (AR .add .u64 (apx dK (i0,n)) 1) (bI 17 0)) (oW _ _ _);exact hLP ⟨(i',P2,apx bQ (apx bQ q2)),by show i'≤N;omega,hTP⟩ [(0,0),(1,0),(2,18),(3,0),(4,0),(5,0),(6,0),(7,0),(8,0),(9,0),(10,0),(11,0)] _ (by show N-i'<N-i;omega) ⟨rfl,rfl,rfl,(by cbv;repeat' first|exact lg|apply O4|exact hE _ rfl|(simp;done))⟩
    ·exact(hTc.noOpen β).elim
    ·exact(hTc.has hkVL (fun x hx=>by rw[←hkk];exact β x hx)).elim
   ·have a1:CM .lt (Int.ofNat i) (Int.ofNat N)=false:=by rw[hC];simp only[cmStd,decide_eq_false_iff_not,Int.ofNat_eq_natCast];omega
    cbv;repeat' first|exact O5|intro β;cbv|apply O4|apply p0;done
    repeat (any_goals (simp only[a1];try (cbv;repeat' first|exact O5|intro β;cbv|apply O4|apply p0;done)))
    apply hX;cbv;repeat' first|exact O5|intro β;cbv|apply O4|apply p0;done
    refine hP [(0,0),(1,0),(2,0),(3,0),(4,0),(5,0),(6,0),(7,0),(8,0),(9,0),(10,0)] _ _ _ _ ?_ rfl ?_ hk
    ·rfl
    ·exact aP
  ·obtain⟨m',hm'⟩:∃m',m=m'+1:=⟨m-1,by have:=hq.length_eq;simp only[List.length_cons] at this;omega⟩;have a1:AR .sub .i64 (Int.ofNat m) 1=Int.ofNat m':=by rw[hA,hm'];simp only[arStd,IntKind.wrap_i64,Int.ofNat_eq_natCast];omega
   have a2:CM .le 0 (Int.ofNat m')=true:=by rw[hC];simp[cmStd]
   have a3:CM .lt (Int.ofNat m') (Int.ofNat N)=true:=by rw[hC];simp only[cmStd,decide_eq_true_eq,Int.ofNat_eq_natCast];omega
   cbv;refine⟨fun l1 blk cs l2 hPe=>?_,fun l1 blk l2 hPe=>(hT.noOpen hPe).elim⟩;have hE:=bN pb 410 l1 l2 k blk cs cs (some (rr,some k,lf')) rfl;rw[←hPe] at hE;have hE2:eF [.prd (.mp pb (.ptrs 410 (op l1 k blk l2)) (some (rr,some k,lf'))),.raw true blk 410 cs] (.prd (.mp pb (.ptrs 410 P') (some (rr,some k,lf')))):=by rw[hop];exact hE
   clear hPe hE;cbv;repeat' first|exact O5|intro β;cbv|apply O4|apply p0;done
   repeat (any_goals (simp only[a1,a2,a3];try (cbv;repeat' first|exact O5|intro β;cbv|apply O4|apply p0;done)))
   have e1:apx nP (R,m',k)=R.set m' k:=by rw[hap];rfl
   rw[e1];refine hLP ⟨(some k,lf',m',R.set m' k),?_,?_,?_,?_⟩ [(0,0),(1,0),(2,14),(3,0),(4,0),(5,0),(6,0),(7,0),(8,0),(9,0),(10,0),(11,0)] _ (by show lf'.length<lfs.length;rw[hq.length_eq];simp) ⟨rfl,rfl,rfl,(by cbv;repeat' first|exact lg|apply O4|exact hE2|(simp;done))⟩
   ·show (kq P').Perm ((R.set m' k).drop m'++lf');have h1:m'<(R.set m' k).length:=by rw[List.length_set];omega
    rw[List.drop_eq_getElem_cons h1,List.getElem_set_self,List.drop_set_of_lt (by omega),←hm'];exact hp.trans ((List.Perm.append_left _ hq).trans List.perm_middle)
   ·show lf'.length=m';have:=hq.length_eq;simp only[List.length_cons] at this;omega
   ·show (R.set m' k).length=N;rw[List.length_set];exact hRl
   ·show m'≤N;omega
 ·have c1:CM .le (Int.ofNat N) 7=false:=by rw[hC];simp[cmStd];omega
  have c2:CM .le (Int.ofNat N) 4294967296=true:=by rw[hC];simp[cmStd];omega
  cbv;repeat' first|exact O5|intro β;cbv|apply O4|apply p0;done
  repeat (any_goals (simp only[c1,hNN];try (cbv;repeat' first|exact O5|intro β;cbv|apply O4|apply p0;done)))
  rename_i bZ bA;rename Nat=>rr;obtain⟨R0,hR0⟩:∃R0,R0=rep N:=⟨_,rfl⟩;have hR0l:R0.length=N:=by rw[hR0,hrep];simp
  rw[←hR0];refine hL _ {x:Option Int×List Int×Nat×List Int//(kq P').Perm (x.2.2.2.drop x.2.2.1++x.2.1)∧x.2.1.length=x.2.2.1∧x.2.2.2.length=N∧x.2.2.1≤N} (fun x j=>eO 54 j [(0,.ptr 0 b 7),(1,.fn (.func 292) [] [.ptr 10 rb 0]),(4,.i .i64 (Int.ofNat x.1.2.2.1)),(6,.sl 11 1 bA 0 N N),(25,.ptr 2 rr 0)])
   (fun x=>[DT ⟨b,id,term,vote,lb,ms,vb,pb,wb,mi,lead,cq,pv,ht,et,rt,nf,sd,ob,nx⟩ (AV ⟨b,id,term,vote,lb,ms,vb,pb,wb,mi,lead,cq,pv,ht,et,rt,nf,sd,ob,nx⟩ lv) lf tkv st zz,C1,.prd (.mp pb (.ptrs 410 P') (some (rr,x.1.1,x.1.2.1))),C3,oO lb 8 sb r,C5,C6,C7,STO.raw ⟨sb,hs,sn',nn,eb,off,cap,n,k0,k1,k2,k3,k4,k5,sp,t0,i0,f3,f4,es⟩ 9,STO.row ⟨sb,hs,sn',nn,eb,off,cap,n,k0,k1,k2,k3,k4,k5,sp,t0,i0,f3,f4,es⟩,.raw true rb 239 [.ptr 0 b 0],.prd (.mr 22 .u64 1 bA 0 N N x.1.2.2.2)])
   (fun x=>x.1.2.1.length) ⟨(none,kq P',N,R0),by show (kq P').Perm (R0.drop N++kq P');rw[List.drop_of_length_le (Nat.le_of_eq hR0l)];exact List.Perm.refl _,by show (kq P').length=N;rw[hkq];exact hNl.symm,hR0l,Nat.le_refl _⟩ [(0,0),(1,0),(2,0),(3,0),(4,0),(5,0),(6,0),(7,0),(8,0),(9,0),(10,0),(12,0)] _ _ (by decide+kernel) ⟨rfl,rfl,rfl,aP⟩ ?_
  rintro⟨⟨cur,lfs,m,R⟩,hp,hlm,hRl,hmN⟩ js LP hsat2 hLP hX hR2;change (kq P').Perm (R.drop m++lfs) at hp;change lfs.length=m at hlm;change R.length=N at hRl;change m≤N at hmN;cbv;refine⟨fun h0=>?_,fun k lf' y hq=>?_⟩
  ·subst h0;have hm0:m=0:=by rw[←hlm];rfl
   have hpR:(kq P').Perm R:=by rw[hm0] at hp;simpa using hp
   have hPR:∀k,k∈R→k∈V∨k∈L:=fun k hk=>(hT.keys k).1 (by rw[hkq] at hpR;exact hpR.mem_iff.2 hk);cbv;apply hX;cbv;repeat' first|exact O5|intro β;cbv|apply O4|apply p0;done
   refine aD hN [11] (by decide) rfl ?_ ?_ (fun F'=>s300p (nn:=1) (b:=bA) (off:=0) (cap:=N) (n:=N) (l:=R) hRl (by omega) (fun R1 hR1=>?_) F')
   ·rfl
   ·exact⟨rfl,trivial⟩
   have hPR1:∀k,k∈R1→k∈V∨k∈L:=fun k hk=>hPR k (hR1.mem_iff.1 hk);have hR1l:R1.length=N:=by rw[hR1.length_eq];exact hRl
   cbv;repeat' first|exact O5|intro β;cbv|apply O4|apply p0;done
   refine hL _ {x:Nat×MQ×Int//x.1≤N∧TrkOK V L x.2.1} (fun x j=>eO 54 j [(0,.ptr 0 b 7),(1,.fn (.func 292) [] [.ptr 10 rb 0]),(38,.sl 11 1 bA 0 N N),(39,.i .i64 (Int.ofNat N)),(40,.i .i64 (Int.ofNat x.1.1))])
    (fun x=>[DT ⟨b,id,term,vote,lb,ms,vb,pb,wb,mi,lead,cq,pv,ht,et,rt,nf,sd,ob,nx⟩ (AV ⟨b,id,term,vote,lb,ms,vb,pb,wb,mi,lead,cq,pv,ht,et,rt,nf,sd,ob,nx⟩ lv) lf tkv st zz,C1,.prd (.mp pb (.ptrs 410 x.1.2.1) none),C3,oO lb 8 sb r,C5,C6,C7,STO.raw ⟨sb,hs,sn',nn,eb,off,cap,n,k0,k1,x.1.2.2,k3,k4,k5,sp,t0,i0,f3,f4,es⟩ 9,STO.row ⟨sb,hs,sn',nn,eb,off,cap,n,k0,k1,k2,k3,k4,k5,sp,t0,i0,f3,f4,es⟩,.raw true rb 239 [.ptr 0 b 0],.prd (.mr 22 .u64 1 bA 0 N N R1)])
    (fun x=>N-x.1.1) ⟨(0,P',k2),Nat.zero_le _,hT⟩ [(0,0),(1,0),(2,4),(3,0),(4,0),(5,0),(6,0),(7,0),(8,0),(9,0),(10,0),(11,0)] _ _ (by decide+kernel) ⟨rfl,rfl,rfl,(by cbv;repeat' first|exact lg|apply O4|exact dR _ _ _|(simp;done))⟩ ?_
   clear hLP hX hR2 hsat2;rintro⟨⟨i,Pc,q2⟩,hi,hTc⟩ js2 LP2 hsat2 hLP hX hR2;change i≤N at hi;change TrkOK V L Pc at hTc;have hk:=hKK Pc q2 hTc;rcases Nat.lt_or_ge i N with hi2|hi2
   ·have a1:CM .lt (Int.ofNat i) (Int.ofNat N)=true:=by rw[hC];simp only[cmStd,decide_eq_true_eq,Int.ofNat_eq_natCast];omega
    have a2:CM .le 0 (Int.ofNat i)=true:=by rw[hC];simp[cmStd]
    have a3:AR .add .i64 (Int.ofNat i) 1=Int.ofNat (i+1):=by rw[hA];exact fU (by omega)
    obtain⟨i',hi'⟩:∃i',i'=i+1:=⟨_,rfl⟩;rw[←hi'] at a3;obtain⟨k,hkk⟩:∃k,NI R1 i=k:=⟨_,rfl⟩;have hkR:k∈R1:=by rw[←hkk,hNI];exact List.mem_of_getElem? (cO (by omega:i<R1.length))
    have hkVL:=hPR1 k hkR;cbv;repeat' first|exact O5|intro β;cbv|apply O4|apply p0;done
    repeat (any_goals (simp only[a1,a2,hkk];try (cbv;repeat' first|exact O5|intro β;cbv|apply O4|apply p0;done)))
    ·rename_i l1 blk cs l2;have hPe:Pc=l1++(k,blk,some cs)::l2:=by rw[←hkk];exact β
     obtain⟨u,hu,hu1⟩:=hTc.get1 hPe;subst hu;obtain⟨lfk,hlfk⟩:∃f,f=decide (k∈L):=⟨_,rfl⟩;rw[←hlfk];rw[hPe] at hTc;have hgen:∀u:Nat→Value,(∀i,(u i).oneCell'=true)→∃P2,TrkOK V L P2∧∀cs:List SV,SV.dens cs=SV.dens (lH u lfk)→eF [.prd (.mp pb (.ptrs 410 (op l1 k blk l2)) none),.raw true blk 410 cs] (.prd (.mp pb (.ptrs 410 P2) none)):=fun u h=>
      ⟨l1++(k,blk,some (lH u lfk))::l2,by rw[hlfk];exact hTc.upd u h,fun cs h2=>by rw[hop];exact bN pb 410 l1 l2 k blk cs (lH u lfk) none h2⟩
     clear hPe;rcases hce:CM .eq k id with _|_
     ·refine inl @hI Tryz.func292 Tryz.ntmps292 rfl rfl ?_;cbv;repeat' first|exact O5|intro β;cbv|apply O4|apply p0;done
      repeat (any_goals (simp only[hce,a3];try (cbv;repeat' first|exact O5|intro β;cbv|apply O4|apply p0;done)))
      rename Nat→Nat→Nat=>bI;obtain⟨P2,hTP,hE⟩:=hgen (prU 0 (AR .add .u64 (apx dK (i0,n)) 1) (bI 17 0)) (oW _ _ _);exact hLP ⟨(i',P2,apx bQ q2),by show i'≤N;omega,hTP⟩ [(0,0),(1,0),(2,18),(3,0),(4,0),(5,0),(6,0),(7,0),(8,0),(9,0),(10,0),(11,0)] _ (by show N-i'<N-i;omega) ⟨rfl,rfl,rfl,(by cbv;repeat' first|exact lg|apply O4|exact hE _ rfl|(simp;done))⟩
     ·refine inl @hI Tryz.func292 Tryz.ntmps292 rfl rfl ?_;cbv;repeat' first|exact O5|intro β;cbv|apply O4|apply p0;done
      repeat (any_goals (simp only[hce,a3];try (cbv;repeat' first|exact O5|intro β;cbv|apply O4|apply p0;done)))
      rename Nat→Nat→Nat=>bI;obtain⟨P2,hTP,hE⟩:=hgen (prU (apx dK (i0,n)) (AR .add .u64 (apx dK (i0,n)) 1) (bI 17 0)) (oW _ _ _);exact hLP ⟨(i',P2,apx bQ (apx bQ q2)),by show i'≤N;omega,hTP⟩ [(0,0),(1,0),(2,18),(3,0),(4,0),(5,0),(6,0),(7,0),(8,0),(9,0),(10,0),(11,0)] _ (by show N-i'<N-i;omega) ⟨rfl,rfl,rfl,(by cbv;repeat' first|exact lg|apply O4|exact hE _ rfl|(simp;done))⟩
    ·exact(hTc.noOpen β).elim
    ·exact(hTc.has hkVL (fun x hx=>by rw[←hkk];exact β x hx)).elim
   ·have a1:CM .lt (Int.ofNat i) (Int.ofNat N)=false:=by rw[hC];simp only[cmStd,decide_eq_false_iff_not,Int.ofNat_eq_natCast];omega
    cbv;repeat' first|exact O5|intro β;cbv|apply O4|apply p0;done
    repeat (any_goals (simp only[a1];try (cbv;repeat' first|exact O5|intro β;cbv|apply O4|apply p0;done)))
    apply hX;cbv;repeat' first|exact O5|intro β;cbv|apply O4|apply p0;done
    refine hP [(0,0),(1,0),(2,0),(3,0),(4,0),(5,0),(6,0),(7,0),(8,0),(9,0),(10,0)] _ _ _ _ ?_ rfl ?_ hk
    ·rfl
    ·exact aP
  ·obtain⟨m',hm'⟩:∃m',m=m'+1:=⟨m-1,by have:=hq.length_eq;simp only[List.length_cons] at this;omega⟩;have a1:AR .sub .i64 (Int.ofNat m) 1=Int.ofNat m':=by rw[hA,hm'];simp only[arStd,IntKind.wrap_i64,Int.ofNat_eq_natCast];omega
   have a2:CM .le 0 (Int.ofNat m')=true:=by rw[hC];simp[cmStd]
   have a3:CM .lt (Int.ofNat m') (Int.ofNat N)=true:=by rw[hC];simp only[cmStd,decide_eq_true_eq,Int.ofNat_eq_natCast];omega
   cbv;refine⟨fun l1 blk cs l2 hPe=>?_,fun l1 blk l2 hPe=>(hT.noOpen hPe).elim⟩;have hE:=bN pb 410 l1 l2 k blk cs cs (some (rr,some k,lf')) rfl;rw[←hPe] at hE;have hE2:eF [.prd (.mp pb (.ptrs 410 (op l1 k blk l2)) (some (rr,some k,lf'))),.raw true blk 410 cs] (.prd (.mp pb (.ptrs 410 P') (some (rr,some k,lf')))):=by rw[hop];exact hE
   clear hPe hE;cbv;repeat' first|exact O5|intro β;cbv|apply O4|apply p0;done
   repeat (any_goals (simp only[a1,a2,a3];try (cbv;repeat' first|exact O5|intro β;cbv|apply O4|apply p0;done)))
   have e1:apx nP (R,m',k)=R.set m' k:=by rw[hap];rfl
   rw[e1];refine hLP ⟨(some k,lf',m',R.set m' k),?_,?_,?_,?_⟩ [(0,0),(1,0),(2,14),(3,0),(4,0),(5,0),(6,0),(7,0),(8,0),(9,0),(10,0),(11,0)] _ (by show lf'.length<lfs.length;rw[hq.length_eq];simp) ⟨rfl,rfl,rfl,(by cbv;repeat' first|exact lg|apply O4|exact hE2|(simp;done))⟩
   ·show (kq P').Perm ((R.set m' k).drop m'++lf');have h1:m'<(R.set m' k).length:=by rw[List.length_set];omega
    rw[List.drop_eq_getElem_cons h1,List.getElem_set_self,List.drop_set_of_lt (by omega),←hm'];exact hp.trans ((List.Perm.append_left _ hq).trans List.perm_middle)
   ·show lf'.length=m';have:=hq.length_eq;simp only[List.length_cons] at this;omega
   ·show (R.set m' k).length=N;rw[List.length_set];exact hRl
   ·show m'≤N;omega
end Go.Sx
