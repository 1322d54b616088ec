import Derived.Test.YtjikgjdicpggkaaGreatX09
set_option autoImplicit true
set_option relaxedAutoImplicit true
set_option linter.all false
set_option maxRecDepth 100000
set_option maxHeartbeats 4000000
namespace Go.Sx
open Go Go.Proofs
theorem TrkOK.get1 {V L:List Int} {P:MQ} (h:TrkOK V L P) {l1 l2:MQ} {k:Int} {blk:Nat} {cs:List SV} (e:P=l1++(k,blk,some cs)::l2):∃u:Nat→Value,cs=lH u (decide (k∈L))∧∀i,(u i).oneCell'=true:=by obtain⟨u,h1,h2⟩:=h.cl (k,blk,some cs) (by rw[e];simp);exact⟨u,by simpa using h1,h2⟩
theorem s269V {b q:Nat} {V:List Int} {it iu:IT} {P:MQ} {vt:Value} {mi mb li id:Int} {r b1:Nat} {K:SV→List C→Prop}
  (hT:TrkOK V [] P) (hid:id∉V) (hid0:id≠0) (hV:V.length≤900)
  (hKK:∀(b' q':Nat) (P':MQ),TrkOK (V++[id]) [] P'→K (.tup [.agg [.hv 0 (.map (some b')),.v (.map none),.bl false,.v (.map none),.v (.map none)],.hv 1 (.map (some q')),.v .nilIface])
   [.prd (.mp b' (.set (V++[id])) none),.prd (.mp q' (.ptrs 410 P') none),.prd (.st b1 388 [.oi 205 .i32 (some 0),.oi 22 .u64 (some id)]),.free]) (F:HProp):
  inS Tryz.prog F 269 [.agg [.hv 0 (.map (some b)),.v (.map none),.bl false,.v (.map none),.v (.map none),.hv 1 (.map (some q)),.v vt,.i .i64 mi,.i .u64 mb,.i .u64 li],.hv 3 (.slice (some ⟨r,0,none⟩) 1 1)]
   [.prd (.mp b (.set V) it),.prd (.mp q (.ptrs 410 P) iu),.prd (.st b1 388 [.oi 205 .i32 (some 0),.oi 22 .u64 (some id)]),.raw true r 348 [.ptr 2 b1 0]] K:=by
 refine aF ⟨false,true⟩ (fun TX=>[OO,N3,M1,OX,IH,LX,NP TX]) (fun _=>(.cons LV (.cons M2 (.cons OA (.cons MN (.cons KL (.cons OW (.cons L5 .nil)))))))) Tryz.func269 Tryz.ntmps269 rfl rfl ?_;intros;rename_i ins hins kq hkq adq hadq _ _ _ _ _ _ _ _ op hop _ _ ln hln _ _ _ _ _ _ _ _ _ _ _ _ _ _ _ _ _ _ TX hTX _ _ AR _ CM hC _ _ _ _ _ _ hU hI hL _ hN hsat hP;cbv;repeat' first|exact O5|intro β;cbv|apply O4
 refine inl @hI Tryz.func312 Tryz.ntmps312 rfl rfl ?_;cbv;repeat' first|exact O5|intro β;cbv|apply O4
 refine inl @hI Tryz.func352 Tryz.ntmps352 rfl rfl ?_;cbv;repeat' first|exact O5|intro β;cbv|apply O4
 rename_i g4 g5 g7 g8 g10 g11 g9 g27;rename Nat=>r1;refine hL _ {x:Option Int×MQ×List Int//(keysq P).Perm (keysq x.2.1++x.2.2)∧∀y∈x.2.1,PrOK [] y} (fun x j=>eO 34 j [(2,.ptr 8 (g8 0) 0),(5,.ptr 9 (g9 0) 0),(6,.hv 27 (.map (some g27))),(17,.ptr 1 r1 0)])
  (fun x=>[.prd (.mp b (.set V) none),.prd (.mp q (.ptrs 410 P) (some (r1,x.1.1,x.1.2.2))),.prd (.st b1 388 [.oi 205 .i32 (some 0),.oi 22 .u64 (some id)]),.raw true r 348 [.ptr 2 b1 0],
   .raw true (g4 0) 364 [.hv 0 (.map (some b)),.v (.map none),.bl false,.v (.map none),.v (.map none),.hv 1 (.map (some q)),.v vt,.i .i64 mi,.i .u64 mb,.i .u64 li],
   .raw true (g5 0) 254 [.v (.map none),.v (.map none),.bl false,.v (.map none),.v (.map none)],.free,.free,
   .raw true (g8 0) 254 [.v (.map none),.v (.map none),.bl false,.v (.map none),.v (.map none)],
   .raw true (g9 0) 254 [.hv 11 (.map (some (g11 6 0))),.v (.map none),.bl false,.v (.map none),.v (.map none)],.free,
   .prd (.mp (g11 6 0) (.set V) none),.free,.free,.free,.free,.free,.free,.free,.free,.free,.free,.free,.free,.free,.free,.free,.prd (.mp g27 (.ptrs 410 x.1.2.1) none)])
  (fun x=>x.1.2.2.length) ⟨(none,[],kq P),by rw[hkq];exact⟨List.Perm.refl _,fun y h=>by cases h⟩⟩
  [(0,0),(1,0),(2,0),(3,0),(4,0),(5,0),(6,1),(6,1),(8,0),(9,0),(6,1),(11,0),(6,1),(6,1),(6,1),(6,1),(6,1),(6,1),(6,1),(6,1),(6,1),(6,1),(6,1),(6,1),(6,1),(6,1),(6,1),(27,0)] _ _ (by decide+kernel) ?_ ?_
 ·refine⟨rfl,rfl,rfl,?_⟩;cbv
 rintro⟨⟨cur,Q,lf⟩,hp,hQ⟩ j LP hsat2 hLP hX hR;change (keysq P).Perm (keysq Q++lf) at hp;change∀y∈Q,PrOK [] y at hQ;have hPn:=iH 1 hsat2 rfl;cbv;refine⟨fun h0=>?_,fun k lf' y hq=>?_⟩
 case refine_2=>
  have hkP:k∈keysq Q++lf:=List.mem_append_right _ (hq.mem_iff.2 (List.mem_cons_self ..));have hne:∀x∈Q,x.1≠k:=by
   intro x hx e;have h1:(keysq Q++lf).Nodup:=hp.nodup hPn;have h2:k∈keysq Q:=by
    rw[←e];clear hp hQ h1 hkP hLP hX hR hsat2;induction Q with
    |nil=>cases hx|cons z Q ih=>
     simp only[keysq,List.mem_cons];rcases List.mem_cons.1 hx with rfl|hx
     ·exact .inl rfl
     ·exact .inr (ih hx)
   exact(List.nodup_append.1 h1).2.2 k h2 k (hq.mem_iff.2 (List.mem_cons_self ..)) rfl
  cbv;refine⟨fun l1 blk cs l2 hPe=>?_,fun l1 blk l2 hPe=>(hT.noOpen hPe).elim⟩;obtain⟨u,hu,hu1⟩:=hT.get1 hPe;have u0:=hu1 0;have u1:=hu1 1;have u2:=hu1 2;have u3:=hu1 3;have u4:=hu1 4;have u5:=hu1 5;have u6:=hu1 6;have u7:=hu1 7;have hdk:decide (k∈([]:List Int))=false:=rfl;rw[hdk] at hu;subst hu;cbv;repeat' first|exact O5|intro β;cbv|apply O4
  have e1:eF [.prd (.mp q (.ptrs 410 (op l1 k blk l2)) (some (r1,some k,lf'))),.raw true blk 410 (lH u false)] (.prd (.mp q (.ptrs 410 P) (some (r1,some k,lf')))):=by rw[hPe,hop];exact bN q 410 l1 l2 k blk _ _ _ rfl
  have e2:eF [.prd (.mp g27 (.ptrs 410 (adq Q k (β 0))) none),.raw true (β 0) 410 (lH u false)] (.prd (.mp g27 (.ptrs 410 (Q++[(k,β 0,some (lH u false))])) none)):=by rw[hadq];exact bN g27 410 Q [] k (β 0) _ _ _ rfl
  refine hLP ⟨(some k,Q++[(k,β 0,some (lH u false))],lf'),?_,?_⟩ [(0,0),(1,30),(2,0),(3,0),(4,0),(5,0),(6,1),(6,1),(8,0),(9,0),(6,1),(11,0),(6,1),(6,1),(6,1),(6,1),(6,1),(6,1),(6,1),(6,1),(6,1),(6,1),(6,1),(6,1),(6,1),(6,1),(6,1),(27,31)] _ (by show lf'.length<lf.length;rw[hq.length_eq];simp) ⟨rfl,rfl,rfl,⟨rfl,?_,rfl,⟨rfl,rfl,rfl,rfl⟩,⟨rfl,rfl,rfl,rfl⟩,⟨rfl,rfl,rfl,rfl⟩,⟨rfl,rfl,rfl,rfl⟩,⟨rfl,rfl,rfl,rfl⟩,rfl,?_,trivial⟩⟩
  ·show (keysq P).Perm (keysq (Q++[(k,β 0,some (lH u false))])++lf');rw[bX,List.append_assoc];show (keysq P).Perm (keysq Q++(k::lf'));exact hp.trans (List.Perm.append_left (keysq Q) hq)
  ·intro y hy;rcases List.mem_append.1 hy with hy|hy
   ·exact hQ y hy
   ·simp only[List.mem_singleton] at hy;subst hy;exact⟨u,rfl,hu1⟩
  ·exact e1
  ·exact e2
 case refine_1=>
  subst h0;have hTQ:TrkOK V [] Q:=by refine⟨fun k=>?_,fun k _ h=>(by cases h),hQ⟩;rw[←hT.keys k,hp.mem_iff,List.append_nil]
  cbv;apply hX;cbv;repeat' first|exact O5|intro β;cbv|apply O4
  refine inl @hI Tryz.func319 Tryz.ntmps319 rfl rfl ?_;cbv;repeat' first|exact O5|intro β;cbv|apply O4
  repeat (first|(refine inl @hI Tryz.func314 Tryz.ntmps314 rfl rfl ?_;cbv;repeat' first|exact O5|intro β;cbv|apply O4)|(refine inl @hI Tryz.func316 Tryz.ntmps316 rfl rfl ?_;cbv;repeat' first|exact O5|intro β;cbv|apply O4)|(refine inl @hI Tryz.func317 Tryz.ntmps317 rfl rfl ?_;cbv;repeat' first|exact O5|intro β;cbv|apply O4)|(refine inl @hI Tryz.func320 Tryz.ntmps320 rfl rfl ?_;cbv;repeat' first|exact O5|intro β;cbv|apply O4))
  refine hU 2 (by decide+kernel) ?_;cbv;repeat' first|exact O5|intro β;cbv|apply O4
  have c1:CM .lt 0 (Int.ofNat 1)=true:=by rw[hC];rfl
  have c2:CM .lt 1 (Int.ofNat 1)=false:=by rw[hC];rfl
  have c3:CM .eq id 0=false:=by rw[hC];simpa [cmStd] using hid0
  have c4:CM .eq 0 0=true:=by rw[hC];rfl
  rw[c1];cbv;repeat' first|exact O5|intro β;cbv|apply O4
  rw[c3];cbv;repeat' first|exact O5|intro β;cbv|apply O4
  rw[c4];cbv;repeat' first|exact O5|intro β;cbv|apply O4
  have hno:∀(l1:MQ) (blk:Nat) (c:Option (List SV)) (l2:MQ),Q=l1++(id,blk,c)::l2→False:=by
   intro l1 blk c l2 e;have h1:id∈keysq Q:=by rw[e,bX];simp[keysq]
   rcases (hTQ.keys id).1 h1 with h|h
   ·exact hid h
   ·cases h
  have hne:∀x∈Q,x.1≠id:=by intro x hx e;obtain⟨l1,l2,e2⟩:=List.append_of_mem hx;exact hno l1 x.2.1 x.2.2 l2 (by rw[e2,←e])
  have hins1:ins id V=V++[id]:=by
   rw[hins];have:V.contains id=false:=by simpa using hid
   simp only[this];rfl
  refine inl @hI Tryz.func356 Tryz.ntmps356 rfl rfl ?_;cbv;intro g356;cbv;refine⟨fun l1 blk cs l2 e=>(hno _ _ _ _ e).elim,fun l1 blk l2 e=>(hno _ _ _ _ e).elim,fun _=>?_⟩;cbv;repeat' first|exact O5|intro β;cbv|apply O4
  refine inl @hI Tryz.func384 Tryz.ntmps384 rfl rfl ?_;cbv;repeat' first|exact O5|intro β;cbv|apply O4
  rw[c2];cbv;repeat' first|exact O5|intro β;cbv|apply O4
  have hln:CM .eq (Int.ofNat (ln (ins id V))) 0=false:=by rw[hC,hln,hins1];simp[cmStd];omega
  have hSD:s5 V (ins id V) (TX.ap kG (V,ins id V)):=s5.self hTX (by omega) (by rw[hins1];simp;omega);rw[hln];cbv;repeat' first|exact O5|intro β;cbv|apply O4
  have hgt:CM .lt 1 (Int.ofNat (TX.ap kG (V,ins id V)))=false:=by
   have e1:TX.ap kG (V,ins id V)=1:=by
    rw[hTX,hins1];show difC V (V++[id])+difC (V++[id]) V=1;rw[gY];have h1:difC V (V++[id])=0:=by unfold difC;rw[List.filter_eq_nil_iff.2 (fun x hx=>by simp[hx])];rfl
    have h2:difC V V=0:=by unfold difC;rw[List.filter_eq_nil_iff.2 (fun x hx=>by simp[hx])];rfl
    have h3:V.contains id=false:=by simpa using hid
    rw[h1,h2,h3];rfl
   rw[hC,e1];rfl
  erw [hgt]
  cbv;repeat' first|exact O5|intro β;cbv|apply O4
  rename_i w11 w10 w9 w8 w7 w6 w5 w4 w3 w2 w1;obtain⟨u,hu⟩:∃u:Nat→Value,u=fun|0=>.int .u64 0|1=>.int .u64 (AR .max .u64 li 1)|2=>.int .u64 0|3=>.int .u64 0|4=>.int .u64 0|5=>.bool true|6=>.bool false|_=>.pointer (some ⟨w3 11 0,0,none⟩):=⟨_,rfl⟩;have hu1:∀i,(u i).oneCell'=true:=by intro i;rw[hu];simp only;split<;>rfl
  obtain⟨Q2,hQ2⟩:∃Q2:MQ,Q2=Q++[(id,w3 14 0,some (lH u false))]:=⟨_,rfl⟩;have hTQ2:TrkOK (ins id V) [] Q2:=by
   refine⟨fun k=>?_,fun k _ h=>(by cases h),fun y hy=>?_⟩
   ·rw[hQ2,hins1,bX];have:=hTQ.keys k;simp only[keysq,List.mem_append,List.mem_singleton,List.not_mem_nil,or_false] at this⊢;rw[this]
   ·rw[hQ2] at hy;rcases List.mem_append.1 hy with hy|hy
    ·exact hTQ.cl y hy
    ·simp only[List.mem_singleton] at hy;subst hy;exact⟨u,rfl,hu1⟩
  refine mQ hN 27 37 (.prd (.mp g27 (.ptrs 410 Q2) none)) rfl rfl rfl ?_ ?_
  ·rw[hQ2];have:=bN g27 410 Q [] id (w3 14 0) [.lit .u64 0,.i .u64 (AR .max .u64 li 1),.lit .u64 0,.lit .u64 0,.lit .u64 0,.bl true,.bl false,.ptr 36 (w3 11 0) 0,.bl false] (lH u false) none (by rw[hu];rfl);rw[show Q++(id,w3 14 0,none)::[]=adq Q id (w3 14 0) by rw[hadq]] at this;exact this
  refine inl @hI Tryz.func319 Tryz.ntmps319 rfl rfl ?_;cbv;repeat' first|exact O5|intro β;cbv|apply O4
  have hk:=hKK (g11 6 0) g27 Q2 (by rw[←hins1];exact hTQ2);refine hP [(11,0),(27,0),(2,0),(3,1)] _ _ _ _ ?_ rfl ?_ hk
  ·rfl
  ·refine⟨?_,rfl,rfl,trivial⟩;show Pay.mp _ _ _=Pay.mp _ _ _;rw[hins1]
theorem NM {b q:Nat} {V:List Int} {it iu:IT} {P:MQ} {vt:Value} {mi mb li id:Int} {r b1:Nat} {K:SV→List C→Prop}
  (hT:TrkOK V [] P) (hid:id∉V) (hid0:id≠0) (hV:V.length≤900) (hV0:V≠[])
  (hKK:∀(b' q' c':Nat) (P':MQ),TrkOK V [id] P'→K (.tup [.agg [.hv 0 (.map (some b')),.v (.map none),.bl false,.hv 3 (.map (some c')),.v (.map none)],.hv 1 (.map (some q')),.v .nilIface])
   [.prd (.mp b' (.set V) none),.prd (.mp q' (.ptrs 410 P') none),.prd (.st b1 388 [.oi 205 .i32 (some 3),.oi 22 .u64 (some id)]),.prd (.mp c' (.set [id]) none)]) (F:HProp):
  inS Tryz.prog F 269 [.agg [.hv 0 (.map (some b)),.v (.map none),.bl false,.v (.map none),.v (.map none),.hv 1 (.map (some q)),.v vt,.i .i64 mi,.i .u64 mb,.i .u64 li],.hv 3 (.slice (some ⟨r,0,none⟩) 1 1)]
   [.prd (.mp b (.set V) it),.prd (.mp q (.ptrs 410 P) iu),.prd (.st b1 388 [.oi 205 .i32 (some 3),.oi 22 .u64 (some id)]),.raw true r 348 [.ptr 2 b1 0]] K:=by
 refine aF ⟨false,true⟩ (fun TX=>[OO,N3,M1,OX,IH,LX,NP TX]) (fun _=>(.cons LV (.cons M2 (.cons OA (.cons MN (.cons KL (.cons OW (.cons L5 .nil)))))))) Tryz.func269 Tryz.ntmps269 rfl rfl ?_;intros;rename_i ins hins kq hkq adq hadq _ _ _ _ _ _ _ _ op hop _ _ ln hln _ _ _ _ _ _ _ _ _ _ _ _ _ _ _ _ _ _ TX hTX _ _ AR _ CM hC _ _ _ _ _ _ hU hI hL _ hN hsat hP;cbv;repeat' first|exact O5|intro β;cbv|apply O4
 refine inl @hI Tryz.func312 Tryz.ntmps312 rfl rfl ?_;cbv;repeat' first|exact O5|intro β;cbv|apply O4
 refine inl @hI Tryz.func352 Tryz.ntmps352 rfl rfl ?_;cbv;repeat' first|exact O5|intro β;cbv|apply O4
 rename_i g4 g5 g7 g8 g10 g11 g9 g27;rename Nat=>r1;refine hL _ {x:Option Int×MQ×List Int//(keysq P).Perm (keysq x.2.1++x.2.2)∧∀y∈x.2.1,PrOK [] y} (fun x j=>eO 34 j [(2,.ptr 8 (g8 0) 0),(5,.ptr 9 (g9 0) 0),(6,.hv 27 (.map (some g27))),(17,.ptr 1 r1 0)])
  (fun x=>[.prd (.mp b (.set V) none),.prd (.mp q (.ptrs 410 P) (some (r1,x.1.1,x.1.2.2))),.prd (.st b1 388 [.oi 205 .i32 (some 3),.oi 22 .u64 (some id)]),.raw true r 348 [.ptr 2 b1 0],
   .raw true (g4 0) 364 [.hv 0 (.map (some b)),.v (.map none),.bl false,.v (.map none),.v (.map none),.hv 1 (.map (some q)),.v vt,.i .i64 mi,.i .u64 mb,.i .u64 li],
   .raw true (g5 0) 254 [.v (.map none),.v (.map none),.bl false,.v (.map none),.v (.map none)],.free,.free,
   .raw true (g8 0) 254 [.v (.map none),.v (.map none),.bl false,.v (.map none),.v (.map none)],
   .raw true (g9 0) 254 [.hv 11 (.map (some (g11 6 0))),.v (.map none),.bl false,.v (.map none),.v (.map none)],.free,
   .prd (.mp (g11 6 0) (.set V) none),.free,.free,.free,.free,.free,.free,.free,.free,.free,.free,.free,.free,.free,.free,.free,.prd (.mp g27 (.ptrs 410 x.1.2.1) none)])
  (fun x=>x.1.2.2.length) ⟨(none,[],kq P),by rw[hkq];exact⟨List.Perm.refl _,fun y h=>by cases h⟩⟩
  [(0,0),(1,0),(2,0),(3,0),(4,0),(5,0),(6,1),(6,1),(8,0),(9,0),(6,1),(11,0),(6,1),(6,1),(6,1),(6,1),(6,1),(6,1),(6,1),(6,1),(6,1),(6,1),(6,1),(6,1),(6,1),(6,1),(6,1),(27,0)] _ _ (by decide+kernel) ?_ ?_
 ·refine⟨rfl,rfl,rfl,?_⟩;cbv
 rintro⟨⟨cur,Q,lf⟩,hp,hQ⟩ j LP hsat2 hLP hX hR;change (keysq P).Perm (keysq Q++lf) at hp;change∀y∈Q,PrOK [] y at hQ;have hPn:=iH 1 hsat2 rfl;cbv;refine⟨fun h0=>?_,fun k lf' y hq=>?_⟩
 case refine_2=>
  have hkP:k∈keysq Q++lf:=List.mem_append_right _ (hq.mem_iff.2 (List.mem_cons_self ..));have hne:∀x∈Q,x.1≠k:=by
   intro x hx e;have h1:(keysq Q++lf).Nodup:=hp.nodup hPn;have h2:k∈keysq Q:=by
    rw[←e];clear hp hQ h1 hkP hLP hX hR hsat2;induction Q with
    |nil=>cases hx|cons z Q ih=>
     simp only[keysq,List.mem_cons];rcases List.mem_cons.1 hx with rfl|hx
     ·exact .inl rfl
     ·exact .inr (ih hx)
   exact(List.nodup_append.1 h1).2.2 k h2 k (hq.mem_iff.2 (List.mem_cons_self ..)) rfl
  cbv;refine⟨fun l1 blk cs l2 hPe=>?_,fun l1 blk l2 hPe=>(hT.noOpen hPe).elim⟩;obtain⟨u,hu,hu1⟩:=hT.get1 hPe;have u0:=hu1 0;have u1:=hu1 1;have u2:=hu1 2;have u3:=hu1 3;have u4:=hu1 4;have u5:=hu1 5;have u6:=hu1 6;have u7:=hu1 7;have hdk:decide (k∈([]:List Int))=false:=rfl;rw[hdk] at hu;subst hu;cbv;repeat' first|exact O5|intro β;cbv|apply O4
  have e1:eF [.prd (.mp q (.ptrs 410 (op l1 k blk l2)) (some (r1,some k,lf'))),.raw true blk 410 (lH u false)] (.prd (.mp q (.ptrs 410 P) (some (r1,some k,lf')))):=by rw[hPe,hop];exact bN q 410 l1 l2 k blk _ _ _ rfl
  have e2:eF [.prd (.mp g27 (.ptrs 410 (adq Q k (β 0))) none),.raw true (β 0) 410 (lH u false)] (.prd (.mp g27 (.ptrs 410 (Q++[(k,β 0,some (lH u false))])) none)):=by rw[hadq];exact bN g27 410 Q [] k (β 0) _ _ _ rfl
  refine hLP ⟨(some k,Q++[(k,β 0,some (lH u false))],lf'),?_,?_⟩ [(0,0),(1,30),(2,0),(3,0),(4,0),(5,0),(6,1),(6,1),(8,0),(9,0),(6,1),(11,0),(6,1),(6,1),(6,1),(6,1),(6,1),(6,1),(6,1),(6,1),(6,1),(6,1),(6,1),(6,1),(6,1),(6,1),(6,1),(27,31)] _ (by show lf'.length<lf.length;rw[hq.length_eq];simp) ⟨rfl,rfl,rfl,⟨rfl,?_,rfl,⟨rfl,rfl,rfl,rfl⟩,⟨rfl,rfl,rfl,rfl⟩,⟨rfl,rfl,rfl,rfl⟩,⟨rfl,rfl,rfl,rfl⟩,⟨rfl,rfl,rfl,rfl⟩,rfl,?_,trivial⟩⟩
  ·show (keysq P).Perm (keysq (Q++[(k,β 0,some (lH u false))])++lf');rw[bX,List.append_assoc];show (keysq P).Perm (keysq Q++(k::lf'));exact hp.trans (List.Perm.append_left (keysq Q) hq)
  ·intro y hy;rcases List.mem_append.1 hy with hy|hy
   ·exact hQ y hy
   ·simp only[List.mem_singleton] at hy;subst hy;exact⟨u,rfl,hu1⟩
  ·exact e1
  ·exact e2
 case refine_1=>
  subst h0;have hTQ:TrkOK V [] Q:=by refine⟨fun k=>?_,fun k _ h=>(by cases h),hQ⟩;rw[←hT.keys k,hp.mem_iff,List.append_nil]
  cbv;apply hX;cbv;repeat' first|exact O5|intro β;cbv|apply O4
  refine inl @hI Tryz.func319 Tryz.ntmps319 rfl rfl ?_;cbv;repeat' first|exact O5|intro β;cbv|apply O4
  repeat (first|(refine inl @hI Tryz.func314 Tryz.ntmps314 rfl rfl ?_;cbv;repeat' first|exact O5|intro β;cbv|apply O4)|(refine inl @hI Tryz.func316 Tryz.ntmps316 rfl rfl ?_;cbv;repeat' first|exact O5|intro β;cbv|apply O4)|(refine inl @hI Tryz.func317 Tryz.ntmps317 rfl rfl ?_;cbv;repeat' first|exact O5|intro β;cbv|apply O4)|(refine inl @hI Tryz.func320 Tryz.ntmps320 rfl rfl ?_;cbv;repeat' first|exact O5|intro β;cbv|apply O4))
  refine hU 2 (by decide+kernel) ?_;cbv;repeat' first|exact O5|intro β;cbv|apply O4
  have c1:CM .lt 0 (Int.ofNat 1)=true:=by rw[hC];rfl
  have c2:CM .lt 1 (Int.ofNat 1)=false:=by rw[hC];rfl
  have c3:CM .eq id 0=false:=by rw[hC];simpa [cmStd] using hid0
  have c4:CM .eq 3 0=false:=by rw[hC];rfl
  have c5:CM .eq 3 3=true:=by rw[hC];rfl
  rw[c1];cbv;repeat' first|exact O5|intro β;cbv|apply O4
  rw[c3];cbv;repeat' first|exact O5|intro β;cbv|apply O4
  rw[c4];cbv;repeat' first|exact O5|intro β;cbv|apply O4
  rw[c5];cbv;repeat' first|exact O5|intro β;cbv|apply O4
  have hno:∀(l1:MQ) (blk:Nat) (c:Option (List SV)) (l2:MQ),Q=l1++(id,blk,c)::l2→False:=by
   intro l1 blk c l2 e;have h1:id∈keysq Q:=by rw[e,bX];simp[keysq]
   rcases (hTQ.keys id).1 h1 with h|h
   ·exact hid h
   ·cases h
  have hne:∀x∈Q,x.1≠id:=by intro x hx e;obtain⟨l1,l2,e2⟩:=List.append_of_mem hx;exact hno l1 x.2.1 x.2.2 l2 (by rw[e2,←e])
  have hins1:ins id []=[id]:=by rw[hins];rfl
  refine inl @hI Tryz.func357 Tryz.ntmps357 rfl rfl ?_;cbv;intro g356;cbv;refine⟨fun l1 blk cs l2 e=>(hno _ _ _ _ e).elim,fun l1 blk l2 e=>(hno _ _ _ _ e).elim,fun _=>?_⟩;cbv;repeat' first|exact O5|intro β;cbv|apply O4
  refine inl @hI Tryz.func384 Tryz.ntmps384 rfl rfl ?_;cbv;repeat' first|exact O5|intro β;cbv|apply O4
  refine inl @hI Tryz.func315 Tryz.ntmps315 rfl rfl ?_;cbv;repeat' first|exact O5|intro β;cbv|apply O4
  rw[c2];cbv;repeat' first|exact O5|intro β;cbv|apply O4
  have hln:CM .eq (Int.ofNat (ln V)) 0=false:=by
   rw[hC,hln];cases V with
   |nil=>exact absurd rfl hV0|cons a V=>simp[cmStd];omega
  have hSD:s5 V V (TX.ap kG (V,V)):=s5.self hTX (by omega) (by omega);rw[hln];cbv;repeat' first|exact O5|intro β;cbv|apply O4
  have hgt:CM .lt 1 (Int.ofNat (TX.ap kG (V,V)))=false:=by
   have e1:TX.ap kG (V,V)=0:=by
    rw[hTX];show difC V V+difC V V=0;have h2:difC V V=0:=by unfold difC;rw[List.filter_eq_nil_iff.2 (fun x hx=>by simp[hx])];rfl
    rw[h2]
   rw[hC,e1];rfl
  erw [hgt]
  cbv;repeat' first|exact O5|intro β;cbv|apply O4
  rename_i w13 w12 w11 w10 w9 w8 w7 w6 w5 w4 w3 w2 w1;obtain⟨u,hu⟩:∃u:Nat→Value,u=fun|0=>.int .u64 0|1=>.int .u64 (AR .max .u64 li 1)|2=>.int .u64 0|3=>.int .u64 0|4=>.int .u64 0|5=>.bool true|6=>.bool false|_=>.pointer (some ⟨w3 11 0,0,none⟩):=⟨_,rfl⟩;have hu1:∀i,(u i).oneCell'=true:=by intro i;rw[hu];simp only;split<;>rfl
  obtain⟨Q2,hQ2⟩:∃Q2:MQ,Q2=Q++[(id,w3 14 0,some (lH u true))]:=⟨_,rfl⟩;have hTQ2:TrkOK V (ins id []) Q2:=by
   rw[hins1];refine⟨fun k=>?_,fun k h1 h2=>hid (by simp at h2;subst h2;exact h1),fun y hy=>?_⟩
   ·rw[hQ2,bX];have:=hTQ.keys k;simp only[keysq,List.mem_append,List.mem_singleton,List.not_mem_nil,or_false] at this⊢;rw[this]
   ·rw[hQ2] at hy;rcases List.mem_append.1 hy with hy|hy
    ·obtain⟨v,h1,h2⟩:=hTQ.cl y hy;refine⟨v,?_,h2⟩;rw[h1];have:y.1≠id:=hne y hy;simp[this]
    ·simp only[List.mem_singleton] at hy;subst hy;exact⟨u,by simp,hu1⟩
  refine mQ hN 27 38 (.prd (.mp g27 (.ptrs 410 Q2) none)) rfl rfl rfl ?_ ?_
  ·rw[hQ2];have:=bN g27 410 Q [] id (w3 14 0) [.lit .u64 0,.i .u64 (AR .max .u64 li 1),.lit .u64 0,.lit .u64 0,.lit .u64 0,.bl true,.bl false,.ptr 37 (w3 11 0) 0,.bl true] (lH u true) none (by rw[hu];rfl);rw[show Q++(id,w3 14 0,none)::[]=adq Q id (w3 14 0) by rw[hadq]] at this;exact this
  refine inl @hI Tryz.func319 Tryz.ntmps319 rfl rfl ?_;cbv;repeat' first|exact O5|intro β;cbv|apply O4
  have hk:=hKK (g11 6 0) g27 w4 Q2 (by rw[←hins1];exact hTQ2);refine hP [(11,0),(27,0),(2,0),(36,0)] _ _ _ _ ?_ rfl ?_ hk
  ·rfl
  ·refine⟨rfl,rfl,rfl,?_,trivial⟩;show Pay.mp _ _ _=Pay.mp _ _ _;rw[hins1]
end Go.Sx
