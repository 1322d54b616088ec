import Derived.Sort.AssemblyPlain
import Derived.Test.YtjikgjdicpggkaaGreatX04
set_option autoImplicit true
set_option relaxedAutoImplicit true
set_option linter.all false
set_option maxRecDepth 100000
set_option maxHeartbeats 4000000
namespace Go.Sx
open Go Go.Proofs
theorem L8 {x:Int} {K:SV→List C→Prop} (h0:0≤x) (h1:x≤255) (hKK:∀y,K (.i .i64 y) []) (F:HProp):inS Tryz.prog F 348 [.i .u64 x] [] K:=by
 refine aF ⟨false,false⟩ (fun _=>[]) (fun _=>.nil) Tryz.func348 Tryz.ntmps348 rfl rfl ?_;intros;rename_i AR hA CM hC _ _ _ _ _ _ hU hI hL _ _ hsat hP;cbv;repeat' first|exact O5|intro β;cbv|apply O4
 refine inl @hI Tryz.func381 Tryz.ntmps381 rfl rfl ?_;have c1:CM .le 4294967296 x=false:=by rw[hC];simp[cmStd];omega
 have c2:CM .le 65536 x=false:=by rw[hC];simp[cmStd];omega
 have c3:CM .le 256 x=false:=by rw[hC];simp[cmStd];omega
 cbv;repeat' first|exact O5|intro β;cbv|apply O4
 rw[c1];cbv;repeat' first|exact O5|intro β;cbv|apply O4
 rw[c2];cbv;repeat' first|exact O5|intro β;cbv|apply O4
 rw[c3];cbv;repeat' first|exact O5|intro β;cbv|apply O4
 ·refine⟨?_⟩;rw[hA];show 0≤IntKind.u8.wrap x∧IntKind.u8.wrap x<((256:Nat):Int);rw[IntKind.wrap_u8];omega
 rename_i y0;exact hP [] _ (.i .i64 (AR .add .i64 0 (AR .conv .i64 y0 0))) _ [] rfl rfl trivial (hKK _)
theorem rF {b off cap n nn:Nat} {l r:List Int} {K:SV→List C→Prop} (hr:r=(Sort.sort Sort.ltInt l.toArray).toList) (hl:l.length=n) (hn:n≤12)
  (hKK:K (.tup []) [.prd (.mr 22 .u64 nn b off cap n r)]) (F:HProp):
  inS Tryz.prog F 300 [.sl 0 nn b off n cap] [.prd (.mr 22 .u64 nn b off cap n l)] K:=by
 have hr2:r=(Sort.insertionSort Sort.ltInt l.toArray 0 n).toList:=by rw[hr,Sort.sort,Sort.pdq,if_pos (by simpa using by omega)];simp[hl]
 refine aF ⟨false,false⟩ (fun _=>[]) (fun _=>.nil) Tryz.func300 Tryz.ntmps300 rfl rfl ?_;intros;rename_i AR hA CM hC _ _ _ _ _ _ hU hI _ _ hN _ hP;have hcv:AR .conv .u64 (Int.ofNat n) 0=Int.ofNat n:=by rw[hA];show IntKind.u64.wrap _=_;rw[IntKind.wrap_u64];simp only[Int.ofNat_eq_natCast];omega
 have hsb:AR .sub .i64 (Int.ofNat n) 0=Int.ofNat n:=by rw[hA];simp only[arStd,IntKind.wrap_i64,Int.ofNat_eq_natCast];omega
 have c1:CM .le (Int.ofNat n) 12=true:=by rw[hC];simp[cmStd];omega
 cbv;repeat' first|exact O5|intro β;cbv|apply O4
 rw[hcv];refine aD hN [] (by decide) rfl ?_ ?_ (fun F'=>L8 (x:=Int.ofNat n) (by simp) (by simp;omega) (fun y=>?_) F')
 ·rfl
 ·trivial
 cbv;repeat' first|exact O5|intro β;cbv|apply O4
 refine inl @hI Tryz.func347 Tryz.ntmps347 rfl rfl ?_;cbv;repeat' first|exact O5|intro β;cbv|apply O4
 refine hU 1 (by decide+kernel) ?_;cbv;repeat' first|exact O5|intro β;cbv|apply O4
 rw[hsb];cbv;repeat' first|exact O5|intro β;cbv|apply O4
 rw[c1];cbv;repeat' first|exact O5|intro β;cbv|apply O4
 refine aD hN [0] (by decide) rfl ?_ ?_ (fun F'=>zU (nn:=nn) (b:=b) (off:=off) (cap:=cap) (n:=n) (a:=0) (e:=n) (l:=l) hr2 hl (Nat.le_refl _) (Nat.zero_le _) (by omega) ?_ F')
 ·rfl
 ·exact⟨rfl,trivial⟩
 cbv;repeat' first|exact O5|intro β;cbv|apply O4
 refine hP [(0,0)] _ _ _ _ ?_ rfl ?_ hKK
 ·rfl
 ·exact⟨rfl,trivial⟩
theorem nA {L:List C} (p:Nat) {b:Nat} {l:List Int} {it:Option (Nat×Option Int×List Int)} (h:∃(w:World) (F:HProp),sat w (star (big L) F)) (hc:L.getD p .nil=.prd (.mp b (.set l) it)):l.Nodup:=by obtain⟨w,F,h⟩:=kC h hc;have h:sat w (star (dA b (.set l) it) F):=h;obtain⟨es,clock,hE,_⟩:=iO h;exact hE.nd
theorem iH {L:List C} (p:Nat) {b:Nat} {T:TypeId} {l:MQ} {it:Option (Nat×Option Int×List Int)} (h:∃(w:World) (F:HProp),sat w (star (big L) F)) (hc:L.getD p .nil=.prd (.mp b (.ptrs T l) it)):(keysq l).Nodup:=by obtain⟨w,F,h⟩:=kC h hc;have h:sat w (star (dA b (.ptrs T l) it) F):=h;obtain⟨es,clock,hE,_⟩:=iO h;exact hE.nd
def J4:cJ Pay where
 X:=Option (Nat×List Int×Option (Nat×Option Int×List Int))
 args:=fun x=>match x with
  |none=>[.v (.map none)]|some (b,l,it)=>[.hv 0 (.map (some b))]
 pre:=fun x=>match x with
  |none=>[]|some (b,l,it)=>[.prd (.mp b (.set l) it)]
 nf:=1
 res:=fun x β=>match x with
  |none=>.v (.map none)|some (b,l,it)=>.hv 1 (.map (some (β 0)))
 ws:=fun x β=>match x with
  |none=>[]|some (b,l,it)=>[.cel 0 (.prd (.mp b (.set l) none)),.cel 1 (.prd (.mp (β 0) (.set l) none))]
theorem HO:J4.ok Tryz.prog 383:=by
 refine aJ ⟨false,false⟩ (fun _=>[]) (fun _=>.nil) _ Tryz.func383 Tryz.ntmps383 rfl rfl ?_;intros;rename_i ins hins _ _ _ _ _ _ _ _ _ _ _ _ _ _ _ _ _ _ _ _ _ _ _ _ _ _ _ _ _ _ _ _ _ _ _ _ _ _ _ _ _ _ _ _ _ _ _ _ _ _ hU hI hL _ x _ _ ho hsat hP;rcases x with _|⟨b,l,it⟩
 ·cbv;repeat' first|exact O5|intro β;cbv|apply O4
  exact hP (fun _=>0) [(0,1)] _ _ rfl bM
 ·have hnd:=nA 0 hsat rfl;cbv;repeat' first|exact O5|intro β;cbv|apply O4
  rename_i b2;rename Nat=>r;refine hL _ {x:Option Int×List Int×List Int//l.Perm (x.2.1++x.2.2)} (fun x j=>eO 20 j [(0,.hv 0 (.map (some b))),(2,.v (.map none)),(3,.hv 1 (.map (some b2))),(11,.ptr 0 r 0)])
   (fun x=>[.prd (.mp b (.set l) (some (r,x.1.1,x.1.2.2))),.prd (.mp b2 (.set x.1.2.1) none)]) (fun x=>x.1.2.2.length) ⟨(none,[],l),List.Perm.refl _⟩ [(0,0),(1,0)] _ _ (by decide+kernel) ⟨rfl,rfl,rfl,⟨rfl,rfl,trivial⟩⟩ ?_
  rintro⟨⟨cur,d,lf⟩,hp⟩ j LP hsat2 hLP hX hR;change l.Perm (d++lf) at hp;cbv;refine⟨fun h0=>?_,fun k lf' y hq=>?_⟩
  ·cbv;apply hX;cbv;subst h0;refine hP (fun _=>b2) [(0,2),(1,3)] _ _ rfl ⟨trivial,rfl,rfl,⟨dR _ _ _,?_,trivial⟩⟩;exact vG b2 d l none (by simpa using hp.symm)
  ·have hk:k∉d:=by
    have h1:(d++lf).Nodup:=hp.nodup hnd;have h2:k∈lf:=hq.mem_iff.2 (List.mem_cons_self ..);intro h3;exact(List.nodup_append.1 h1).2.2 k h3 k h2 rfl
   have hi:ins k d=d++[k]:=by
    rw[hins];have:d.contains k=false:=by simpa using hk
    simp only[this];rfl
   cbv;rw[hi]
   exact hLP ⟨(some k,d++[k],lf'),by
    show l.Perm (d++[k]++lf');rw[List.append_assoc]
    exact hp.trans (List.Perm.append_left d hq)⟩ [(0,0),(1,0)] _ (by show lf'.length<lf.length;rw[hq.length_eq];simp) ⟨rfl,rfl,rfl,⟨rfl,rfl,trivial⟩⟩
def m383 (args:List SV):SM Pay (J4.X×List Nat):=match args with
 |[.hv h _]=>.rdC h fun c=>match c with
  |.prd (.mp b (.set l) it)=>.ret (some (b,l,it),[h])|_=>.fail
 |[.v (.map none)]=>.ret (none,[])|_=>.fail
theorem LV:cI 383:=⟨_,Tryz.func383,rfl,by decide⟩
def OO:aN:=⟨383,1,true,J4.app m383,J4.app_ok HO m383,fun h=>by cases h⟩
def srtI (l:List Int):List Int:=l.mergeSort fun x y=>decide (x≤y)
theorem jJ {l l':List Int} (h:l.Perm l'):srtI l=srtI l':=by
 have tr:∀a b c:Int,decide (a≤b)=true→decide (b≤c)=true→decide (a≤c)=true:=fun a b c h1 h2=>by simp only[decide_eq_true_eq] at*;omega
 have to:∀a b:Int,(decide (a≤b)||decide (b≤a))=true:=fun a b=>by simp only[Bool.or_eq_true,decide_eq_true_eq];omega
 refine List.Perm.eq_of_pairwise (le:=fun a b=>decide (a≤b)=true) (fun a b _ _ h1 h2=>?_) (List.pairwise_mergeSort tr to l) (List.pairwise_mergeSort tr to l') (((List.mergeSort_perm l _).trans h).trans (List.mergeSort_perm l' _).symm);simp only[decide_eq_true_eq] at h1 h2;omega
theorem fC (l:List Int):(srtI l).length=l.length:=by simp[srtI]
theorem dM (l:List Int):(Sort.sort Sort.ltInt l.toArray).toList=srtI l:=Sort.sortInt l
theorem LF {K:SV→List C→Prop} (hKK:K (.tup []) []) (F:HProp):inS Tryz.prog F 300 [.v (.slice none 0 0)] [] K:=by
 refine aF ⟨false,false⟩ (fun _=>[]) (fun _=>.nil) Tryz.func300 Tryz.ntmps300 rfl rfl ?_;intros;rename_i AR hA CM hC _ _ _ _ _ _ hU hI _ _ hN _ hP;have hsb:AR .sub .i64 0 0=0:=by rw[hA];rfl
 have hadd:AR .add .i64 0 1=1:=by rw[hA];rfl
 have c1:CM .le 0 12=true:=by rw[hC];rfl
 have c2:CM .lt 1 0=false:=by rw[hC];rfl
 cbv;repeat' first|exact O5|intro β;cbv|apply O4
 refine aD hN [] (by decide) rfl ?_ ?_ (fun F'=>L8 (x:=0) (by simp) (by simp) (fun y=>?_) F')
 ·rfl
 ·trivial
 cbv;repeat' first|exact O5|intro β;cbv|apply O4
 refine inl @hI Tryz.func347 Tryz.ntmps347 rfl rfl ?_;cbv;repeat' first|exact O5|intro β;cbv|apply O4
 refine hU 1 (by decide+kernel) ?_;cbv;repeat' first|exact O5|intro β;cbv|apply O4
 refine inl @hI Tryz.func371 Tryz.ntmps371 rfl rfl ?_;cbv;repeat' first|exact O5|intro β;cbv|apply O4
 refine hU 1 (by decide+kernel) ?_;cbv;repeat' first|exact O5|intro β;cbv|apply O4
 exact hP [] _ (.tup []) _ [] rfl rfl trivial hKK
inductive BJ (l:List Int) (n:Nat) (s:List Int):Prop where
 |mk (h1:l.length=n) (h2:n≤12) (h3:s=srtI l)
abbrev RW:=Option (Nat×Nat×Nat)
def rwV (n:Nat):RW→SV
 |none=>.v (.slice none 0 0)|some (b,off,cap)=>.sl 1 1 b off n cap
def rwC (n:Nat) (l:List Int):RW→C
 |none=>.free|some (b,off,cap)=>.prd (.mr 22 .u64 1 b off cap n l)
def G5:cJ Pay where
 X:=Option (Nat×List Int×Option (Nat×Option Int×List Int)×Nat×List Int)
 args:=fun x=>match x with
  |none=>[.v (.map none)]|some (b,l,it,n,s)=>[.hv 0 (.map (some b))]
 pre:=fun x=>match x with
  |none=>[]|some (b,l,it,n,s)=>[.prd (.mp b (.set l) it)]
 obl:=fun x=>match x with
  |none=>True|some (b,l,it,n,s)=>BJ l n s
 nf:=1
 res:=fun x β=>match x with
  |none=>.v (.slice none 0 0)|some (b,l,it,n,s)=>.sl 1 (β 0) (β 1) (β 2) n (β 3)
 ws:=fun x β=>match x with
  |none=>[]|some (b,l,it,n,s)=>[.cel 0 (.prd (.mp b (.set l) none)),.cel 1 (.prd (.sl true (β 0) (β 1) (β 2) (β 3) (.ul 22 .u64 n s)))]
theorem IL:G5.ok Tryz.prog 329:=by
 refine aJ ⟨true,false⟩ (fun _=>[]) (fun _=>.nil) _ Tryz.func329 Tryz.ntmps329 rfl rfl ?_;intros;rename_i sn hsn _ _ _ _ _ _ _ _ _ _ _ _ _ _ _ _ _ _ _ _ _ _ na hna _ _ CM hC _ _ _ _ _ _ hU hI hL _ x _ hN ho hsat hP;rcases x with _|⟨b,l,it,n,s⟩
 ·cbv;repeat' first|exact O5|intro β;cbv|apply O4
  refine hU 1 (by decide+kernel) ?_;cbv;repeat' first|exact O5|intro β;cbv|apply O4
  refine aD hN [] (by decide) rfl ?_ ?_ (fun F'=>LF ?_ F')
  ·rfl
  ·trivial
  cbv;repeat' first|exact O5|intro β;cbv|apply O4
  exact hP (fun _=>0) [(0,1)] _ _ rfl ⟨trivial,rfl,rfl,by cbv⟩
 ·obtain⟨h1,h2,h3⟩:=ho;have hnd:=nA 0 hsat rfl;obtain⟨LN,hLN⟩:∃LN:List Int→Nat,LN=fun l=>l.length:=⟨_,rfl⟩;cbv;repeat' first|exact O5|intro β;cbv|apply O4
  rename Nat=>r;refine hL _ {x:Option Int×List Int×List Int×RW//l.Perm (x.2.1++x.2.2.1)∧(x.2.2.2=none→x.2.1=[])} (fun x j=>eO 18 j [(2,.v (.slice none 0 0)),(3,rwV (LN x.1.2.1) x.1.2.2.2),(6,.ptr 0 r 0)])
   (fun x=>[.prd (.mp b (.set l) (some (r,x.1.1,x.1.2.2.1))),rwC (LN x.1.2.1) x.1.2.1 x.1.2.2.2]) (fun x=>x.1.2.2.1.length) ⟨(none,[],l,none),List.Perm.refl _,fun _=>rfl⟩ [(0,0),(0,1)] _ _ (by decide+kernel) ⟨rfl,rfl,rfl,⟨rfl,trivial⟩⟩ ?_
  rintro⟨⟨cur,d,lf,o⟩,hp,ho⟩ j LP hsat2 hLP hX hR;change l.Perm (d++lf) at hp;have hlen:LN d+lf.length=n:=by rw[hLN,←h1,hp.length_eq,List.length_append]
  rcases o with _|⟨b2,off2,cap2⟩
  ·have ho:d=[]:=ho rfl;subst ho;cbv;refine⟨fun h0=>?_,fun k lf' y hq=>?_⟩
   ·subst h0;have hl0:l=[]:=List.Perm.eq_nil hp;have hn0:n=0:=by rw[←h1,hl0];rfl
    have hs0:s=[]:=by rw[h3,hl0];simp[srtI]
    cbv;apply hX;cbv;repeat' first|exact O5|intro β;cbv|apply O4
    refine aD hN [] (by decide) rfl ?_ ?_ (fun F'=>LF ?_ F')
    ·rfl
    ·trivial
    cbv;repeat' first|exact O5|intro β;cbv|apply O4
    subst hn0;subst hs0;exact hP (fun _=>0) [(0,2),(99,101)] _ _ rfl ⟨trivial,rfl,rfl,⟨dR _ _ _,vE 22 .u64 true,trivial⟩⟩
   ·cbv;repeat' first|exact O5|intro β;cbv|apply O4
    rename_i c1 c2;rename Nat=>c3;have e1:na 0 1=LN [k]:=by rw[hna,hLN];rfl
    have e2:sn [] k=[k]:=by rw[hsn];rfl
    rw[e1,e2];refine hLP ⟨(some k,[k],lf',some (c1,c2,c3)),?_,fun h=>by cases h⟩ [(0,0),(4,0)] _ (by show lf'.length<lf.length;rw[hq.length_eq];simp) ⟨rfl,rfl,rfl,⟨rfl,rfl,trivial⟩⟩;show l.Perm ([k]++lf');exact hp.trans hq
  ·cbv;refine⟨fun h0=>?_,fun k lf' y hq=>?_⟩
   ·subst h0;have hpd:l.Perm d:=by simpa using hp
    have hLd:LN d=n:=by simpa using hlen
    cbv;apply hX;cbv;repeat' first|exact O5|intro β;cbv|apply O4
    simp only[hLd];refine aD hN [1] (by decide) rfl ?_ ?_ (fun F'=>rF (nn:=1) (b:=b2) (off:=off2) (cap:=cap2) (n:=n) (l:=d) (r:=s) ?_ ?_ h2 ?_ F')
    ·rfl
    ·exact⟨rfl,trivial⟩
    ·rw[dM,h3];exact jJ hpd
    ·rw[←h1];exact hpd.length_eq.symm
    cbv;repeat' first|exact O5|intro β;cbv|apply O4
    exact hP (fun|0=>1|1=>b2|2=>off2|_=>cap2) [(0,2),(1,3)] _ _ rfl ⟨trivial,rfl,rfl,⟨dR _ _ _,tA 22 .u64 true 1 b2 off2 cap2 n s,trivial⟩⟩
   ·have hle:CM .le (Int.ofNat (na (LN d) 1)) 4294967296=true:=by
     have:=hq.length_eq;simp at this;rw[hC,hna];simp only[cmStd,decide_eq_true_eq,Int.ofNat_eq_natCast];omega
    cbv;repeat' first|exact O5|intro β;cbv|apply O4
    rename_i c1 c2;rename Nat=>c3;have e1:na (LN d) 1=LN (d++[k]):=by rw[hna,hLN];simp
    have e2:sn d k=d++[k]:=by rw[hsn]
    simp only[e1,e2];refine hLP ⟨(some k,d++[k],lf',some (c1,c2,c3)),?_,fun h=>by cases h⟩ [(0,0),(1,0)] _ (by show lf'.length<lf.length;rw[hq.length_eq];simp) ⟨rfl,rfl,rfl,⟨rfl,rfl,trivial⟩⟩;show l.Perm (d++[k]++lf');rw[List.append_assoc];exact hp.trans (List.Perm.append_left d hq)
def m329 (TX:TF) (args:List SV):SM Pay (G5.X×List Nat):=match args with
 |[.hv h _]=>.rdC h fun c=>match c with
  |.prd (.mp b (.set l) it)=>.ret (some (b,l,it,TX.ap List.length l,TX.ap srtI l),[h])|_=>.fail
 |[.v (.map none)]=>.ret (none,[])|_=>.fail
theorem x329:cI 329:=⟨_,Tryz.func329,rfl,by decide⟩
def r329 (TX:TF):aN:=⟨329,1,true,G5.app (m329 TX),G5.app_ok IL (m329 TX),fun h=>by cases h⟩
theorem BZ (T:TypeId) (k:IntKind):eF [.nil] (.prd (.mr T k 0 0 0 0 0 [])):=⟨fun w F h=>by
 simp only[big,aO] at h;have h:sat w (star emp F):=h;rw[aH] at h;show sat w (star (iG T k 0 0 0 0 0 []) F)
 exact aB.2 ⟨by simp,h⟩⟩
def ET:cJ Pay where
 X:=Bool×Nat×Nat×Nat×Nat×Nat×List Int
 args:=fun(sp,nn,b,off,cap,n,l)=>[.sl 0 nn b off n cap]
 pre:=fun(sp,nn,b,off,cap,n,l)=>[.prd (.sl sp nn b off cap (.ul 22 .u64 n l))]
 obl:=fun(sp,nn,b,off,cap,n,l)=>n≤4294967296
 nf:=1
 res:=fun(sp,nn,b,off,cap,n,l) β=>.sl 1 (β 0) (β 1) (β 2) n (β 3)
 ws:=fun(sp,nn,b,off,cap,n,l) β=>[.cel 1 (.prd (.mr 22 .u64 (β 0) (β 1) (β 2) (β 3) n l))]
theorem CL:ET.ok Tryz.prog 214:=by
 refine aJ ⟨false,false⟩ (fun _=>[]) (fun _=>.nil) _ Tryz.func214 Tryz.ntmps214 rfl rfl ?_;intros;rename_i CM hC _ _ _ _ _ _ _ _ _ _ x _ _ ho hsat hP;obtain⟨sp,nn,b,off,cap,n,l⟩:=x;change n≤4294967296 at ho;have h1:CM .le (Int.ofNat n) 4294967296=true:=by rw[hC];simp only[cmStd,decide_eq_true_eq,Int.ofNat_eq_natCast];omega
 have hl:=pS 0 hsat rfl;cases nn with
 |zero=>
  obtain⟨rfl,rfl,rfl⟩:=hl.2 rfl;cbv;repeat' first|exact O5|intro β;cbv|apply O4
  exact hP (fun _=>0) [(0,0),(99,101)] _ _ rfl ⟨trivial,rfl,rfl,⟨rfl,BZ 22 .u64,trivial⟩⟩
 |succ nn=>
  cbv;repeat' first|exact O5|intro β;cbv|apply O4|exact h1
  exact hP (fun|0=>1|1=>β|2=>0|_=>n) [(0,0),(1,0)] _ _ rfl ⟨trivial,rfl,rfl,⟨rfl,rfl,trivial⟩⟩
theorem x214m:cI 214:=⟨_,Tryz.func214,rfl,by decide⟩
def r214m:aN:=⟨214,1,true,ET.app HG,ET.app_ok CL HG,fun h=>by cases h⟩
inductive IF (n m:Nat) (l s:List Int) (q:Bool):Prop where
 |mk (h1:l.length=n) (h2:s.length=m) (h3:n≤100000) (h4:q=decide (l=s))
def GG:cJ Pay where
 X:=(Nat×Nat×Nat×Nat×Nat×List Int)×(Nat×Nat×Nat×Nat×Nat×List Int)×Bool
 args:=fun((nn,b,off,cap,n,l),(nn2,b2,off2,cap2,m,s),q)=>[.sl 0 nn b off n cap,.sl 1 nn2 b2 off2 m cap2]
 pre:=fun((nn,b,off,cap,n,l),(nn2,b2,off2,cap2,m,s),q)=>[.prd (.mr 22 .u64 nn b off cap n l),.prd (.mr 22 .u64 nn2 b2 off2 cap2 m s)]
 obl:=fun((nn,b,off,cap,n,l),(nn2,b2,off2,cap2,m,s),q)=>IF n m l s q
 nf:=0
 res:=fun((nn,b,off,cap,n,l),(nn2,b2,off2,cap2,m,s),q) _=>.bl q
 ws:=fun _ _=>[]
theorem JD:GG.ok Tryz.prog 360:=by
 refine aJ ⟨false,false⟩ (fun _=>[]) (fun _=>.nil) _ Tryz.func360 Tryz.ntmps360 rfl rfl ?_;intros;rename_i NI hNI _ _ _ _ _ _ _ _ _ _ AR hA CM hC _ _ _ _ _ _ _ _ hL _ x _ _ ho _ hP;obtain⟨⟨nn,b,off,cap,n,l⟩,⟨nn2,b2,off2,cap2,m,s⟩,q⟩:=x;obtain⟨h1,h2,h3,h4⟩:=ho;change l.length=n at h1;change s.length=m at h2;change n≤100000 at h3;change q=decide (l=s) at h4
 by_cases hnm:n=m
 ·have c1:CM .ne (Int.ofNat n) (Int.ofNat m)=false:=by rw[hC];simp[cmStd,hnm]
  cbv;repeat' first|exact O5|intro β;cbv|apply O4
  rw[c1];cbv;repeat' first|exact O5|intro β;cbv|apply O4
  refine hL _ {x:Nat//x≤n∧l.take x=s.take x} (fun x j=>eO 26 j [(0,.sl 0 nn b off n cap),(1,.sl 1 nn2 b2 off2 m cap2),(12,.i .i64 n),(13,.i .i64 x.1)])
   (fun x=>[.prd (.mr 22 .u64 nn b off cap n l),.prd (.mr 22 .u64 nn2 b2 off2 cap2 m s)]) (fun x=>n-x.1) ⟨0,Nat.zero_le _,rfl⟩ [(0,0),(1,0)] _ _ (by decide+kernel) ⟨by cbv,by cbv,by cbv,⟨rfl,rfl,trivial⟩⟩ ?_
  rintro⟨i,hi,ht⟩ j LP hsat2 hLP hX hR;rcases Nat.lt_or_ge i n with h|h
  ·have h5:CM .lt (Int.ofNat i) (Int.ofNat n)=true:=by rw[hC];simp[cmStd,h]
   have h5':CM .lt (Int.ofNat i) (Int.ofNat m)=true:=by rw[hC];simp[cmStd];omega
   have h6:CM .le 0 (Int.ofNat i)=true:=by rw[hC];simp[cmStd]
   have hadd:AR .add .i64 (Int.ofNat i) 1=Int.ofNat (i+1):=by rw[hA];exact fU (by omega)
   cbv;repeat' first|exact O5|intro β;cbv|apply O4
   rw[h5];cbv;repeat' first|exact O5|intro β;cbv|apply O4
   have g1:l[i]?=some (NI l i):=by rw[hNI];exact cO (by omega)
   have g2:s[i]?=some (NI s i):=by rw[hNI];exact cO (by omega)
   by_cases he:NI l i=NI s i
   ·have c2:CM .ne (NI l i) (NI s i)=false:=by rw[hC];simp[cmStd,he]
    rw[c2];cbv;repeat' first|exact O5|intro β;cbv|apply O4
    rw[hadd]
    exact hLP ⟨i+1,by show i+1≤n;omega,by
     show l.take (i+1)=s.take (i+1)
     rw[List.take_add_one,List.take_add_one,ht,g1,g2,he]⟩ [(0,0),(1,0)] _ (by show n-(i+1)<n-i;omega) ⟨rfl,rfl,rfl,⟨rfl,rfl,trivial⟩⟩
   ·have c2:CM .ne (NI l i) (NI s i)=true:=by rw[hC];simp[cmStd,he]
    rw[c2];cbv;repeat' first|exact O5|intro β;cbv|apply O4
    have hq:q=false:=by rw[h4];simp only[decide_eq_false_iff_not];intro e;have e3:=congrArg (fun z:List Int=>z[i]?) e;simp only[g1,g2] at e3;exact he (Option.some.inj e3)
    subst hq;apply hR;cbv;repeat' first|exact O5|intro β;cbv|apply O4
    exact hP (fun _=>0) [(0,0),(1,0)] _ _ rfl ⟨trivial,rfl,rfl,⟨rfl,rfl,trivial⟩⟩
  ·have h5:CM .lt (Int.ofNat i) (Int.ofNat n)=false:=by rw[hC];simp[cmStd];omega
   cbv;repeat' first|exact O5|intro β;cbv|apply O4
   rw[h5];cbv;repeat' first|exact O5|intro β;cbv|apply O4
   apply hX;cbv;repeat' first|exact O5|intro β;cbv|apply O4
   have hq:q=true:=by rw[h4];simp only[decide_eq_true_eq];have ht:l.take i=s.take i:=ht;rw[List.take_of_length_le (by omega),List.take_of_length_le (by omega)] at ht;exact ht
   subst hq;exact hP (fun _=>0) [(0,0),(1,0)] _ _ rfl ⟨trivial,rfl,rfl,⟨rfl,rfl,trivial⟩⟩
 ·have c1:CM .ne (Int.ofNat n) (Int.ofNat m)=true:=by rw[hC];simp[cmStd];omega
  cbv;repeat' first|exact O5|intro β;cbv|apply O4
  rw[c1];cbv;repeat' first|exact O5|intro β;cbv|apply O4
  have hq:q=false:=by rw[h4];simp only[decide_eq_false_iff_not];intro e;rw[e] at h1;omega
  subst hq;exact hP (fun _=>0) [(0,0),(1,0)] _ _ rfl ⟨trivial,rfl,rfl,⟨rfl,rfl,trivial⟩⟩
def eqP (x:List Int×List Int):Bool:=decide (x.1=x.2)
def m360 (TX:TF) (args:List SV):SM Pay (GG.X×List Nat):=match args with
 |[.sl h nn b off n cap,.sl g nn2 b2 off2 m cap2]=>.rdC h fun c=>.rdC g fun c2=>match c with
  |.prd (.mr _ _ _ _ _ _ _ l)=>match c2 with
   |.prd (.mr _ _ _ _ _ _ _ s)=>.ret (((nn,b,off,cap,n,l),(nn2,b2,off2,cap2,m,s),TX.ap eqP (l,s)),[h,g])|_=>.fail
  |_=>.fail
 |_=>.fail
theorem x360:cI 360:=⟨_,Tryz.func360,rfl,by decide⟩
def r360 (TX:TF):aN:=⟨360,0,true,GG.app (m360 TX),GG.app_ok JD (m360 TX),fun h=>by cases h⟩
inductive MI (n1 m1 n2 m2:Nat) (V1 L1 V2 L2:List Int):Prop where
 |mk (h1:n1≤12) (h2:m1≤12) (h3:n2≤12) (h4:m2≤12) (h5:srtI V1=srtI V2) (h6:srtI L1=srtI L2) (h7:V1.length=n1) (h8:V2.length=n2) (h9:L1.length=m1) (h10:L2.length=m2)
def FC:cJ Pay where
 X:=(Nat×(Nat×List Int)×(Nat×List Int))×(Nat×(Nat×List Int)×(Nat×List Int))×Bool
 args:=fun((b1,_),(b2,_),_)=>[.ptr 0 b1 0,.ptr 1 b2 0]
 pre:=fun((b1,v1,l1),(b2,v2,l2),a)=>[.prd (.st b1 229 (sP v1 l1 (0,[]) (0,[]) (some a))),.prd (.st b2 229 (sP v2 l2 (0,[]) (0,[]) (some a)))]
 obl:=fun((b1,v1,l1),(b2,v2,l2),a)=>MI v1.1 l1.1 v2.1 l2.1 v1.2 l1.2 v2.2 l2.2
 nf:=0
 res:=fun _ _=>.v .nilIface
 ws:=fun _ _=>[]
theorem E8:FC.ok Tryz.prog 278:=by
 refine aJ ⟨false,false⟩ (fun TX=>[r214m,r215,r360 TX,r138]) (fun _=>(.cons x214m (.cons x215 (.cons x360 (.cons x138 .nil))))) _ Tryz.func278 Tryz.ntmps278 rfl rfl ?_;intros;rename_i TX hTX _ _ _ _ CM hC _ _ _ _ _ _ hU hI _ _ x _ hN ho _ hP;obtain⟨⟨b1,⟨n1,V1⟩,⟨m1,L1⟩⟩,⟨b2,⟨n2,V2⟩,⟨m2,L2⟩⟩,a⟩:=x;obtain⟨h1,h2,h3,h4,h5,h6,h7,h8,h9,h10⟩:=ho;change n1≤12 at h1;change m1≤12 at h2;change n2≤12 at h3;change m2≤12 at h4;change srtI V1=srtI V2 at h5;change srtI L1=srtI L2 at h6;change V1.length=n1 at h7;change V2.length=n2 at h8;change L1.length=m1 at h9;change L2.length=m2 at h10;have k1:n1≤4294967296:=by omega
 have k2:n2≤4294967296:=by omega
 have k3:m1≤4294967296:=by omega
 have k4:m2≤4294967296:=by omega
 obtain⟨tz,tl,tt,to,ap⟩:=TX;have hap:∀{α β:Type} (f:α→β) (x:α),ap f x=f x:=fun f x=>congrArg (fun t:TF=>t.ap f x) hTX;have eqt:∀l:List Int,ap eqP (l,l)=true:=fun l=>by rw[hap];simp[eqP]
 obtain⟨S,hS⟩:∃S,S=srtI V1:=⟨_,rfl⟩;have hS2:S=srtI V2:=hS.trans h5;obtain⟨T,hT⟩:∃T,T=srtI L1:=⟨_,rfl⟩;have hT2:T=srtI L2:=hT.trans h6;obtain⟨E,hE0⟩:∃E:List Int,E=srtI []:=⟨_,rfl⟩;cbv;repeat' first|exact O5|intro β;cbv|apply O4
 refine inl @hI Tryz.func162 Tryz.ntmps162 rfl rfl ?_;cbv;repeat' first|exact O5|intro β;cbv|apply O4
 rename Nat→Nat→Nat=>g1;refine inl @hI Tryz.func162 Tryz.ntmps162 rfl rfl ?_;cbv;repeat' first|exact O5|intro β;cbv|apply O4
 rename Nat→Nat→Nat=>g2;have q0:CM .lt 0 (Int.ofNat 2)=true:=by rw[hC];rfl
 have q1:CM .lt 1 (Int.ofNat 2)=true:=by rw[hC];rfl
 have q2:CM .lt 2 (Int.ofNat 2)=false:=by rw[hC];rfl
 refine hU 3 (by decide+kernel) ?_;cbv;repeat' first|exact O5|intro β;cbv|apply O4
 rw[q0];cbv;repeat' first|exact O5|intro β;cbv|apply O4
 refine inl @hI Tryz.func327 Tryz.ntmps327 rfl rfl ?_;cbv;repeat' first|exact O5|intro β;cbv|apply O4
 refine aD hN [3] (by decide) rfl ?_ ?_ (fun F'=>rF (nn:=g1 4 0) (b:=g1 4 1) (off:=g1 4 2) (cap:=g1 4 3) (n:=n1) (l:=V1) (r:=S) (hS.trans (dM V1).symm) h7 h1 ?_ F')
 ·rfl
 ·exact⟨rfl,trivial⟩
 cbv;repeat' first|exact O5|intro β;cbv|apply O4
 refine inl @hI Tryz.func327 Tryz.ntmps327 rfl rfl ?_;cbv;repeat' first|exact O5|intro β;cbv|apply O4
 refine aD hN [5] (by decide) rfl ?_ ?_ (fun F'=>rF (nn:=g1 9 0) (b:=g1 9 1) (off:=g1 9 2) (cap:=g1 9 3) (n:=m1) (l:=L1) (r:=T) (hT.trans (dM L1).symm) h9 h2 ?_ F')
 ·rfl
 ·exact⟨rfl,trivial⟩
 cbv;repeat' first|exact O5|intro β;cbv|apply O4
 refine inl @hI Tryz.func327 Tryz.ntmps327 rfl rfl ?_;cbv;repeat' first|exact O5|intro β;cbv|apply O4
 refine aD hN [7] (by decide) rfl ?_ ?_ (fun F'=>rF (nn:=g1 14 0) (b:=g1 14 1) (off:=g1 14 2) (cap:=g1 14 3) (n:=0) (l:=[]) (r:=E) (hE0.trans (dM []).symm) rfl (by omega) ?_ F')
 ·rfl
 ·exact⟨rfl,trivial⟩
 cbv;repeat' first|exact O5|intro β;cbv|apply O4
 refine inl @hI Tryz.func327 Tryz.ntmps327 rfl rfl ?_;cbv;repeat' first|exact O5|intro β;cbv|apply O4
 refine aD hN [9] (by decide) rfl ?_ ?_ (fun F'=>rF (nn:=g1 19 0) (b:=g1 19 1) (off:=g1 19 2) (cap:=g1 19 3) (n:=0) (l:=[]) (r:=E) (hE0.trans (dM []).symm) rfl (by omega) ?_ F')
 ·rfl
 ·exact⟨rfl,trivial⟩
 cbv;repeat' first|exact O5|intro β;cbv|apply O4
 rw[q1];cbv;repeat' first|exact O5|intro β;cbv|apply O4
 refine inl @hI Tryz.func327 Tryz.ntmps327 rfl rfl ?_;cbv;repeat' first|exact O5|intro β;cbv|apply O4
 refine aD hN [14] (by decide) rfl ?_ ?_ (fun F'=>rF (nn:=g2 4 0) (b:=g2 4 1) (off:=g2 4 2) (cap:=g2 4 3) (n:=n2) (l:=V2) (r:=S) (hS2.trans (dM V2).symm) h8 h3 ?_ F')
 ·rfl
 ·exact⟨rfl,trivial⟩
 cbv;repeat' first|exact O5|intro β;cbv|apply O4
 refine inl @hI Tryz.func327 Tryz.ntmps327 rfl rfl ?_;cbv;repeat' first|exact O5|intro β;cbv|apply O4
 refine aD hN [16] (by decide) rfl ?_ ?_ (fun F'=>rF (nn:=g2 9 0) (b:=g2 9 1) (off:=g2 9 2) (cap:=g2 9 3) (n:=m2) (l:=L2) (r:=T) (hT2.trans (dM L2).symm) h10 h4 ?_ F')
 ·rfl
 ·exact⟨rfl,trivial⟩
 cbv;repeat' first|exact O5|intro β;cbv|apply O4
 refine inl @hI Tryz.func327 Tryz.ntmps327 rfl rfl ?_;cbv;repeat' first|exact O5|intro β;cbv|apply O4
 refine aD hN [18] (by decide) rfl ?_ ?_ (fun F'=>rF (nn:=g2 14 0) (b:=g2 14 1) (off:=g2 14 2) (cap:=g2 14 3) (n:=0) (l:=[]) (r:=E) (hE0.trans (dM []).symm) rfl (by omega) ?_ F')
 ·rfl
 ·exact⟨rfl,trivial⟩
 cbv;repeat' first|exact O5|intro β;cbv|apply O4
 refine inl @hI Tryz.func327 Tryz.ntmps327 rfl rfl ?_;cbv;repeat' first|exact O5|intro β;cbv|apply O4
 refine aD hN [20] (by decide) rfl ?_ ?_ (fun F'=>rF (nn:=g2 19 0) (b:=g2 19 1) (off:=g2 19 2) (cap:=g2 19 3) (n:=0) (l:=[]) (r:=E) (hE0.trans (dM []).symm) rfl (by omega) ?_ F')
 ·rfl
 ·exact⟨rfl,trivial⟩
 cbv;repeat' first|exact O5|intro β;cbv|apply O4
 rw[q2];cbv;repeat' first|exact O5|intro β;cbv|apply O4
 have o1:IF n1 n2 S S (ap eqP (S,S)):=⟨by rw[hS,fC,h7],by rw[hS2,fC,h8],by omega,by rw[hap];rfl⟩;have o2:IF m1 m2 T T (ap eqP (T,T)):=⟨by rw[hT,fC,h9],by rw[hT2,fC,h10],by omega,by rw[hap];rfl⟩;have o3:IF 0 0 E E (ap eqP (E,E)):=⟨by rw[hE0,fC];rfl,by rw[hE0,fC];rfl,by omega,by rw[hap];rfl⟩;refine inl @hI Tryz.func328 Tryz.ntmps328 rfl rfl ?_;cbv;repeat' first|exact O5|intro β;cbv|apply O4
 rw[eqt S];cbv;repeat' first|exact O5|intro β;cbv|apply O4
 rw[eqt T];cbv;repeat' first|exact O5|intro β;cbv|apply O4
 rw[eqt E];cbv;repeat' first|exact O5|intro β;cbv|apply O4
 rw[eqt E];cbv;repeat' first|exact O5|intro β;cbv|apply O4
 ·rw[eqt] at o1;exact o1
 ·rw[eqt] at o2;exact o2
 ·rw[eqt] at o3;exact o3
 ·rw[eqt] at o3;exact o3
 exact hP (fun _=>0) [(0,0),(1,0)] _ _ rfl ⟨trivial,rfl,rfl,⟨rfl,rfl,trivial⟩⟩
def m278 (args:List SV):SM Pay (FC.X×List Nat):=match args with
 |[.ptr h _ _,.ptr g _ _]=>.rdC h fun c=>.rdC g fun c2=>match c with
  |.prd (.st b1 _ [.ul _ _ v1 V1,.ul _ _ l1 L1,_,_,.ob _ (some a)])=>match c2 with
   |.prd (.st b2 _ [.ul _ _ v2 V2,.ul _ _ l2 L2,_,_,_])=>.ret (((b1,(v1,V1),(l1,L1)),(b2,(v2,V2),(l2,L2)),a),[h,g])|_=>.fail
  |_=>.fail
 |_=>.fail
theorem x278:cI 278:=⟨_,Tryz.func278,rfl,by decide⟩
def r278:aN:=⟨278,0,true,FC.app m278,FC.app_ok E8 m278,fun h=>by cases h⟩
theorem u64w (i0 N:Int) (h1:0≤i0) (h2:i0+N≤9223372036854775807) (h:1≤N):IntKind.u64.wrap N=N∧IntKind.u64.wrap (i0+N)=i0+N:=by rw[IntKind.wrap_u64,IntKind.wrap_u64];omega
inductive gT (c d:Int):Prop where
 |mk (h:d=arStd .add .i64 c 1)
def bQ (c:Int):Int:=arStd .add .i64 c 1
inductive OLog (i0:Int) (n:Nat) (e:Int):Prop where
 |mk (h1:0≤i0) (h2:i0+n≤9223372036854775807) (h3:e=i0+n) (h4:1≤n)
def jR (x:Int×Nat):Int:=x.1+x.2
structure STO where
 b:Nat
 hs:SV
 sn:SV
 nn:Nat
 eb:Nat
 off:Nat
 cap:Nat
 n:Nat
 c0:Int
 c1:Int
 c2:Int
 c3:Int
 c4:Int
 c5:Int
 sp:Bool
 t0:Int
 i0:Int
 f3:FV
 f4:FV
 es:List FV
def STO.raw (s:STO) (h:Nat):C:=.raw true s.b 216 [s.hs,s.sn,.sl h (s.nn+1) s.eb s.off s.n s.cap,.i .i64 s.c0,.i .i64 s.c1,.i .i64 s.c2,.i .i64 s.c3,.i .i64 s.c4,.i .i64 s.c5]
def STO.row (s:STO):C:=.prd (.sl s.sp (s.nn+1) s.eb s.off s.cap (.sl 209 1 s.n (.st 212 [.oi 22 .u64 (some s.t0),.oi 22 .u64 (some s.i0),s.f3,s.f4]::s.es)))
def logV (st:SV) (e i0 mx:Int):List SV:=[st,.v (.pointer none),.v (.slice none 0 0),.i .u64 e,.bl false,.i .u64 e,.i .u64 i0,.i .u64 i0,.i .u64 i0,.i .u64 mx,.lit .u64 0,.bl false]
def HI:cJ Pay where
 X:=STO×Int×Int×Int×Int
 args:=fun(s,mx,e,d1,d2)=>[.ifc 132 (.ptr 0 s.b 0),.i .u64 mx]
 pre:=fun(s,mx,e,d1,d2)=>[s.raw 1,s.row]
 obl:=fun(s,mx,e,d1,d2)=>OLog s.i0 s.n e∧gT s.c1 d1∧gT s.c2 d2
 nf:=1
 res:=fun(s,mx,e,d1,d2) β=>.ptr 2 (β 0) 0
 ws:=fun(s,mx,e,d1,d2) β=>[.fld 0 4 (.i .i64 d1),.fld 0 5 (.i .i64 d2),.cel 2 (.raw true (β 0) 313 (logV (.ifc 132 (.ptr 0 s.b 0)) e s.i0 mx))]
theorem HL:HI.ok Tryz.prog 220:=by
 refine aJ ⟨false,false⟩ (fun _=>[fZ]) (fun _=>(.cons gJ .nil)) _ Tryz.func220 Tryz.ntmps220 rfl rfl ?_;intros;rename_i NF hNF _ _ _ _ _ _ _ _ AR hA CM hC _ _ _ _ _ _ _ hI _ _ x _ _ ho _ hP;obtain⟨⟨b,hs,sn',nn,eb,off,cap,n,k0,k1,k2,k3,k4,k5,sp,t0,i0,f3,f4,es⟩,mx,e,d1,d2⟩:=x;obtain⟨⟨h1,h2,h3,h4⟩,⟨h5⟩,⟨h6⟩⟩:=ho;change 0≤i0 at h1;change i0+(n:Int)≤9223372036854775807 at h2;change e=i0+(n:Int) at h3;change 1≤n at h4;change d1=arStd .add .i64 k1 1 at h5;change d2=arStd .add .i64 k2 1 at h6;rw[←hA] at h5 h6;have h4':(1:Int)≤(n:Int):=Int.ofNat_le.2 h4;have hF:∀x l,NF (x::l) 0=x:=by intro x l;rw[hNF];rfl
 cbv;repeat' first|exact O5|intro β;cbv|apply O4
 refine inl @hI Tryz.func163 Tryz.ntmps163 rfl rfl ?_;cbv;repeat' first|exact O5|intro β;cbv|apply O4
 have g1:CM .le 0 (0:Int)=true:=by rw[hC];rfl
 have g2:CM .lt 0 (Int.ofNat n)=true:=by rw[hC];simp[cmStd];omega
 have a1:AR .add .u64 i0 1=i0+1:=by rw[hA];simp only[arStd,IntKind.wrap_u64];omega
 obtain⟨j,hj⟩:∃j,j=i0+1:=⟨_,rfl⟩;rw[←hj] at a1;have a2:AR .sub .u64 j 1=i0:=by rw[hA,hj];simp only[arStd,IntKind.wrap_u64];omega
 have uw:=u64w i0 (Int.ofNat n) h1 h2 h4';have a3:AR .conv .u64 (Int.ofNat n) 0=Int.ofNat n:=by rw[hA];exact uw.1
 have a4:AR .add .u64 i0 (Int.ofNat n)=e:=by rw[hA,h3];exact uw.2
 obtain⟨e1,he1⟩:∃e1,e1=e-1:=⟨_,rfl⟩;have a5:AR .sub .u64 e 1=e1:=by rw[hA,he1];simp only[arStd,IntKind.wrap_u64];omega
 have a6:AR .add .u64 e1 1=e:=by rw[hA,he1];simp only[arStd,IntKind.wrap_u64];omega
 refine inl @hI Tryz.func128 Tryz.ntmps128 rfl rfl ?_;cbv;repeat' first|exact O5|intro β;cbv|apply O4
 rw[hF];cbv;repeat' first|exact O5|intro β;cbv|apply O4
 rw[a1];cbv;repeat' first|exact O5|intro β;cbv|apply O4
 refine inl @hI Tryz.func164 Tryz.ntmps164 rfl rfl ?_;cbv;repeat' first|exact O5|intro β;cbv|apply O4
 refine inl @hI Tryz.func160 Tryz.ntmps160 rfl rfl ?_;cbv;repeat' first|exact O5|intro β;cbv|apply O4
 rw[hF];cbv;repeat' first|exact O5|intro β;cbv|apply O4
 simp only[a3,a4,a5,a6,a2];rw[←h5,←h6];exact hP β [(0,0),(1,0),(15,0)] _ _ rfl ⟨trivial,rfl,rfl,⟨⟨rfl,rfl,rfl,rfl⟩,rfl,⟨rfl,rfl,rfl,rfl⟩,trivial⟩⟩
def m220 (TX:TF) (args:List SV):SM Pay (HI.X×List Nat):=match args with
 |[.ifc _ (.ptr h b _),mx]=>match bG mx with
  |some (_,_,mx)=>.rdC h fun c=>match c with
   |.raw _ _ _ [hs,sn,.sl g (nn+1) eb off n cap,.i _ c0,.i _ c1,.i _ c2,.i _ c3,.i _ c4,.i _ c5]=>.rdC g fun c=>match c with
    |.prd (.sl sp _ _ _ _ (.sl _ _ _ (.st _ [.oi _ _ (some t0),.oi _ _ (some i0),f3,f4]::es)))=>
     .ret ((⟨b,hs,sn,nn,eb,off,cap,n,c0,c1,c2,c3,c4,c5,sp,t0,i0,f3,f4,es⟩,mx,TX.ap jR (i0,n),TX.ap bQ c1,TX.ap bQ c2),[h,g])
    |_=>.fail
   |_=>.fail
  |none=>.fail
 |_=>.fail
theorem x220:cI 220:=⟨_,Tryz.func220,rfl,by decide⟩
def r220 (TX:TF):aN:=⟨220,1,true,HI.app (m220 TX),HI.app_ok HL (m220 TX),fun h=>by cases h⟩
def J1:cJ Pay where
 X:=Int×Int
 args:=fun(mi,mb)=>[.i .i64 mi,.i .u64 mb]
 pre:=fun _=>[]
 nf:=3
 res:=fun(mi,mb) β=>.agg [.hv 0 (.map (some (β 0))),.v (.map none),.bl false,.v (.map none),.v (.map none),.hv 1 (.map (some (β 1))),.hv 2 (.map (some (β 2))),.i .i64 mi,.i .u64 mb]
 ws:=fun(mi,mb) β=>[.cel 0 (.prd (.mp (β 0) (.set []) none)),.cel 1 (.prd (.mp (β 1) (.ptrs 410 []) none)),.cel 2 (.prd (.h (dL (β 2))))]
theorem HH:J1.ok Tryz.prog 221:=by
 refine aJ ⟨false,false⟩ (fun _=>[]) (fun _=>.nil) _ Tryz.func221 Tryz.ntmps221 rfl rfl ?_;intros;rename_i hU hI hL _ x _ _ ho hsat hP;obtain⟨mi,mb⟩:=x;cbv;repeat' first|exact O5|intro β;cbv|apply O4
 rename_i a0 m0 m2 m1;exact hP (fun|0=>m0|1=>m1|_=>m2) [(2,0),(4,0),(3,0)] _ _ rfl ⟨trivial,rfl,rfl,⟨rfl,rfl,rfl,trivial⟩⟩
def m221 (args:List SV):SM Pay (J1.X×List Nat):=match args with
 |[x,y]=>match bG x,bG y with
  |some (_,_,x),some (_,_,y)=>.ret ((x,y),[])|_,_=>.fail
 |_=>.fail
theorem x221:cI 221:=⟨_,Tryz.func221,rfl,by decide⟩
def r221:aN:=⟨221,3,true,J1.app m221,J1.app_ok HH m221,fun h=>by cases h⟩
def I5:cJ Pay where
 X:=Int
 args:=fun o=>[.i .i64 o]
 pre:=fun _=>[]
 nf:=2
 res:=fun o β=>.ptr 0 (β 0) 0
 ws:=fun o β=>[.cel 0 (.raw true (β 0) 398 [.i .i64 o,.hv 1 (.map (some (β 1))),.v (.slice none 0 0),.lit .u64 0]),.cel 1 (.prd (.h (dL (β 1))))]
theorem KC:I5.ok Tryz.prog 222:=by
 refine aJ ⟨false,false⟩ (fun _=>[]) (fun _=>.nil) _ Tryz.func222 Tryz.ntmps222 rfl rfl ?_;intros;rename_i hU hI hL _ x _ _ ho hsat hP;change Int at x;cbv;repeat' first|exact O5|intro β;cbv|apply O4
 rename_i m0;exact hP (fun|0=>β 0|_=>m0) [(0,0),(1,0)] _ _ rfl ⟨trivial,rfl,rfl,⟨⟨rfl,rfl,rfl,rfl⟩,rfl,trivial⟩⟩
def m222 (args:List SV):SM Pay (I5.X×List Nat):=match args with
 |[x]=>match bG x with
  |some (_,_,x)=>.ret (x,[])|none=>.fail
 |_=>.fail
theorem x222:cI 222:=⟨_,Tryz.func222,rfl,by decide⟩
def r222:aN:=⟨222,2,true,I5.app m222,I5.app_ok KC m222,fun h=>by cases h⟩
end Go.Sx
