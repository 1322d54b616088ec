import Derived.Laws.BytesArg
import Derived.Lib.SlBytesConst
import Derived.Tactics
import Derived.Tactics2
import Derived.WalkKit
import Derived.WalkSpells
import Derived.Test.YtjikgjdicpggkaaGreatX02
import Derived.Test.YtjikgjdicpggkaaGreatX04
set_option autoImplicit true
set_option relaxedAutoImplicit true
set_option linter.all false
set_option maxRecDepth 100000
set_option maxHeartbeats 4000000
namespace Go.Sx
open Go Go.Proofs
def cvReg:List Oper→Bool
 |_::_::_::o::_=>match o.op with
  |.convert s d _=>Nat.beq s 174&&Nat.beq d 174|_=>false
 |_=>false
section
variable {Pay:Type} [PayDen Pay] {P:Program}
variable (TT:TypeId→Option TyI) (AR:lT→IntKind→Int→Int→Int) (CM:mU→Int→Int→Bool) (SE:ByteArray→ByteArray→Bool)
variable (f:Oper→Nat→(Nat→Nat)→SM Pay (Delta Pay)) (nf:Oper→Nat) (nd:Oper→Bool) (CK:List RD→Bool)
variable (ST:Code→St Pay→(Ex→St Pay→Prop)→Prop)
variable (PV:List Nat→Nat→Bool) (pv:Oper→Bool) (xo:Oper→Nat→St Pay→(SV→List (Cel Pay)→Prop)→Prop)
def exec2:Code→St Pay→(Ex→St Pay→Prop)→Prop
 |.region id ops draw,σ,K=>match cvReg ops.toList with
  |true=>ST (.region id ops draw) σ K|false=>nS f nf nd CK ST PV pv xo (.region id ops draw) σ K
 |.seq a b,σ,K=>exec2 a σ (seqK (exec2 b) K)|.cond c x y,σ,K=>(ev c).goK σ [] fun v _=>match v with
  |.bl b=>match b with
   |true=>exec2 x σ K|false=>exec2 y σ K
  |_=>False
 |.block id body,σ,K=>exec2 body σ (DD id K)|c,σ,K=>nS f nf nd CK ST PV pv xo c σ K
theorem exec2_sound (hm:P.follows .mixedOrders=true) (hf:∀o base,eG P o (f o base)) (hnd:∀o base,nd o=false→∀β β',f o base β=f o base β') (hCK:CK=fM) (hPV:PV=gD) {F:HProp} (hx:∀o base,pv o=true→cE P F o (xo o base)) (hST:ST=KV P F):
  ∀(c:Code) (σ:St Pay) (K:Ex→St Pay→Prop),dD c=true→exec2 f nf nd CK ST PV pv xo c σ K→KV P F c σ K:=by
 have h0:=lQ f nf nd CK ST PV pv xo hm hf hnd hCK hPV hx hST;intro c;induction c with
 |region id ops draw=>
  intro σ K hok h;unfold exec2 at h;cases hc:cvReg ops.toList with
  |true=>rw[hc] at h;subst hST;exact h|false=>rw[hc] at h;exact h0 _ σ K hok h
 |seq x y ihx ihy=>
  intro σ K hok h Q a w hout hK hmo;simp only[dD,Bool.and_eq_true] at hok;refine wp_seq (ihx σ _ hok.1 h _ a w trivial (fun e σ' a w hk hm=>?_) hmo);cases e with
  |normal=>exact ihy σ' K hok.2 hk Q a w hout hK hm|exit id=>exact hK _ σ' a w hk hm|ret=>exact hK _ σ' a w hk hm
 |cond c x y ihx ihy=>
  intro σ K hok h Q a w hout hK hmo;simp only[dD,Bool.and_eq_true] at hok;simp only[exec2,bO] at h;obtain⟨v,l,hv,h⟩:=h;have e:=aK hmo (aR hv);cases v with
  |bl b=>
   cases b with
   |true=>exact wp_cond_true e (ihx σ K hok.1 h Q a w hout hK hmo)|false=>exact wp_cond_false e (ihy σ K hok.2 h Q a w hout hK hmo)
  |_=>exact h.elim
 |block id body ih=>
  intro σ K hok h Q a w hout hK hmo;refine wp_block (ih σ _ hok h _ a w trivial (fun e σ' a w hk hm=>?_) hmo);cases e with
  |normal=>exact hK _ σ' a w hk hm|ret=>exact hK _ σ' a w hk hm|exit j=>
   simp only[DD] at hk;show if j=id then _ else _
   split at hk
   ·rename_i hb;rw[if_pos (Nat.eq_of_beq_eq_true hb)];exact hK _ σ' a w hk hm
   ·rename_i hb;have hne:j≠id:=Nat.ne_of_beq_eq_false hb;rw[if_neg hne];exact hK _ σ' a w hk hm
 |skip=>intro σ K hok h;exact h0 _ σ K hok h|exit id=>intro σ K hok h;exact h0 _ σ K hok h|ret=>intro σ K hok h;exact h0 _ σ K hok h|loop body ih=>intro σ K hok h;exact h0 _ σ K hok h|rangeFunc f' params assign body ih1 ih2=>intro σ K hok h;exact h0 _ σ K hok h|scope body ih=>intro σ K hok h;exact h0 _ σ K hok h|label l=>intro σ K hok h;exact h0 _ σ K hok h|goto l=>intro σ K hok h;exact h0 _ σ K hok h|refuse why=>intro σ K hok h;exact h0 _ σ K hok h
theorem fn_sound2 (hm:P.follows .mixedOrders=true) (hS:Std P TT AR CM SE) (hf:∀o base,eG P o (f o base)) (hnd:∀o base,nd o=false→∀β β',f o base β=f o base β') (hCK:CK=fM) (hPV:PV=gD)
  {fid:FuncId} {fn:Func} {c:Code} {args:List SV} {heap:List (Cel Pay)} {F:HProp} {w:World} {Post:SV→List (Cel Pay)→Prop} (hx:∀o base,pv o=true→cE P F o (xo o base)) (hST:ST=KV P F)
  (hfn:P.funcs[fid]?=some fn) (hb:fn.body=some c) (hok:dD c=true)
  (h:exec2 f nf nd CK ST PV pv xo c ⟨args++List.replicate (fn.ntmps-args.length) (.v undef),heap⟩ (uQ TT fn.results.toList Post)) (hs:sat w (star (big heap) F)):
  Calls P fid (SV.dens args).toArray w fun e w'=>False∨∃v hp,Post v hp∧e=.returned v.den∧sat w' (star (big hp) F):=by
 refine calls_of_wp hfn hb ?_;refine exec2_sound f nf nd CK ST PV pv xo hm hf hnd hCK hPV hx hST c _ _ hok h _ _ w trivial (fun e σ' a w hk hmo=>?_) ⟨?_,rfl,hs⟩
 ·have key:(lR TT fn.results.toList).goK σ' [] (fun x _=>x.2∧Post (mW x.1) σ'.heap)→bodyPost P fn (fun e w'=>False∨∃v hp,Post v hp∧e=.returned v.den∧sat w' (star (big hp) F)) .normal a w:=by
   intro h;rw[bO] at h;obtain⟨x,l,h1,h2,h3⟩:=h;exact⟨hmo.2.1,_,uX TT AR CM SE hS hmo (aR h1) h2,.inr ⟨_,_,h3,rfl,hmo.2.2⟩⟩
  cases e with
  |normal=>exact key hk|ret=>exact key hk|exit id=>exact hk.elim
 ·simp only[cH];apply Array.ext';simp[SV.den]
end
abbrev XT2 (md:Md) (rs:List aN) (AR:lT→IntKind→Int→Int→Int) (CM:mU→Int→Int→Bool) (SE:ByteArray→ByteArray→Bool) (NF:List FV→Nat→FV) (NI:List Int→Nat→Int) (NA:iC) (TX:TF) (MM:MF) (CK:List RD→Bool) (PV:List Nat→Nat→Bool)
  (ST:Code→St Pay→(Ex→St Pay→Prop)→Prop) (IN:AG):Code→St Pay→(Ex→St Pay→Prop)→Prop:=
 exec2 (nQ KF KE TT AR CM SE NF NI NA TX mP rs) (GI TT rs) (BC TT rs) CK ST PV (A7 md rs) (lS (nQ KF KE TT AR CM SE NF NI NA TX mP rs) CM NI NA MM rs IN)
theorem in_ok2 (md:Md) (rs:TF→List aN) (hfn:∀TX,s7 (rs TX)) {fid:FuncId} {fn:Func} {code:Code} {nt:Nat} {res:List ResultVar}
  (hf:Tryz.prog.funcs[fid]?=some fn) (hb:fn.body=some code) (hok:dD code=true) (hnm:fn.name≠ "runtime.NumGoroutine") (hnt:fn.ntmps=nt) (hres:fn.results.toList=res) {args:List SV} {heap:List C} {F:HProp} {Post:SV→List C→Prop}
  (h:∀(AR:lT→IntKind→Int→Int→Int) (CM:mU→Int→Int→Bool) (SE:ByteArray→ByteArray→Bool) (NF:List FV→Nat→FV) (NI:List Int→Nat→Int) (NA:iC) (TX:TF) (MM:MF) (CK:List RD→Bool) (PV:List Nat→Nat→Bool) (ST:Code→St Pay→(Ex→St Pay→Prop)→Prop) (IN:AG),
   AR=arStd→CM=cmStd→SE=seStd→NF=nth→NI=dI→NA=cC→TX=tfStd→MM=bC→CK=fM→PV=gD→jU (nQ KF KE TT AR CM SE NF NI NA TX mP (rs TX)) (GI TT (rs TX)) (BC TT (rs TX)) CK ST PV (A7 md (rs TX)) (lS (nQ KF KE TT AR CM SE NF NI NA TX mP (rs TX)) CM NI NA MM (rs TX) IN)→gW (nQ KF KE TT AR CM SE NF NI NA TX mP (rs TX)) (GI TT (rs TX)) (BC TT (rs TX)) CK ST PV (A7 md (rs TX)) (lS (nQ KF KE TT AR CM SE NF NI NA TX mP (rs TX)) CM NI NA MM (rs TX) IN)→
   EA md (rs TX) AR CM SE NF NI NA TX MM CK PV ST IN→IN=inS Tryz.prog F→(∃(w:World) (F:HProp),sat w (star (big heap) F))→
   ST=KV Tryz.prog F→XT2 md (rs TX) AR CM SE NF NI NA TX MM CK PV ST IN code ⟨args++List.replicate (nt-args.length) (.v undef),heap⟩ (uQ TT res Post)):inS Tryz.prog F fid args heap Post:=by
 have hS:Std Tryz.prog TT arStd cmStd seStd:=⟨EI,rfl,rfl,rfl⟩;subst hnt;subst hres;have hop:∀o base,eG Tryz.prog o (nQ KF KE TT arStd cmStd seStd nth dI cC tfStd mP (rs tfStd) o base):=fun o base=>(N7 KF KE TT arStd cmStd seStd nth dI cC tfStd mP (rs tfStd) rfl rfl rfl rfl hS KA vZ eqT CD (hfn tfStd) o base).sound;have hsm:∀o base,BC TT (rs tfStd) o=false→∀β β',nQ KF KE TT arStd cmStd seStd nth dI cC tfStd mP (rs tfStd) o base β=nQ KF KE TT arStd cmStd seStd nth dI cC tfStd mP (rs tfStd) o base β':=fun o base hn β β'=>EG KF KE TT arStd cmStd seStd nth dI cC tfStd mP (rs tfStd) o base hn β β';have hxo:∀o base,A7 md (rs tfStd) o=true→cE Tryz.prog F o (lS (nQ KF KE TT arStd cmStd seStd nth dI cC tfStd mP (rs tfStd)) cmStd dI cC bC (rs tfStd) (inS Tryz.prog F) o base):=fun o base h=>LY hop (hfn tfStd) rfl o base h;have hsnd:∀{n:FuncId} {fn:Func} {code:Code} {args:List SV} {heap:List C} {K:SV→List C→Prop},
   Tryz.prog.funcs[n]?=some fn→fn.body=some code→dD code=true→fn.name≠ "runtime.NumGoroutine"→
   XT md (rs tfStd) arStd cmStd seStd nth dI cC tfStd bC fM gD (KV Tryz.prog F) (inS Tryz.prog F) code ⟨args++List.replicate (fn.ntmps-args.length) (.v undef),heap⟩ (uQ TT fn.results.toList K)→inS Tryz.prog F n args heap K:=by
  intro n fn code args heap K h1 h2 h3 h4 h5;refine⟨⟨fn,h1,by rw[h2];rfl,h4⟩,fun w hs=>?_⟩;exact CG TT arStd cmStd seStd _ _ _ fM (KV Tryz.prog F) gD _ _ xA hS hop hsm rfl rfl hxo rfl h1 h2 h3 h5 hs
 refine⟨⟨fn,hf,by rw[hb];rfl,hnm⟩,fun w hs=>?_⟩;exact fn_sound2 TT arStd cmStd seStd _ _ _ fM (KV Tryz.prog F) gD _ _ xA hS hop hsm rfl rfl hxo rfl hf hb hok (h arStd cmStd seStd nth dI cC tfStd bC fM gD (KV Tryz.prog F) (inS Tryz.prog F) rfl rfl rfl rfl rfl rfl rfl rfl rfl rfl (AN _ _ _ _ _ _ _ _ xA hop hsm rfl rfl hxo rfl) (xQ _ _ _ _ _ _ _ _ xA hop hsm rfl rfl hxo rfl) (fun h1 h2 h3 h4 h5 h6 h7=>by subst h5;subst h6;exact hsnd h1 h2 h3 h4 h7) rfl ⟨w,F,hs⟩ rfl) hs
theorem spec_ok3 (md:Md) (rs:TF→List aN) (hfn:∀TX,s7 (rs TX)) {fid:FuncId} {fn:Func} {code:Code} {nt:Nat} {res:List ResultVar} {F:HProp}
  (hf:Tryz.prog.funcs[fid]?=some fn) (hnt:fn.ntmps=nt) (hb:fn.body=some code) (hres:fn.results.toList=res) {args:List SV} {cells:List C} {K:SV→List C→Prop}
  (h:∀(mem:Int→List Int→Bool) (hmem:mem=(fun k l=>l.contains k)) (ins:Int→List Int→List Int) (hins:ins=(fun k l=>if l.contains k then l else l++[k])) (kq:MQ→List Int) (hkq:kq=(keysq)) (adq:MQ→Int→Nat→MQ) (hadq:adq=(fun l k b=>l++[(k,b,none)])) (sti:List Int→Nat→Int→List Int) (hsti:sti=(fun l j v=>l.set j v)) (rep:Nat→List Int) (hrep:rep=(fun n=>List.replicate n 0)) (tk:List Int→Nat→List Int) (htk:tk=(fun l n=>l.take n)) (bi:List UInt8→List Int) (hbi:bi=(fun l=>l.map fun c=>(c.toNat:Int))) (op:MQ→Int→Nat→MQ→MQ) (hop:op=(fun l1 n b l2=>l1++(n,b,none)::l2)) (sn:List Int→Int→List Int) (hsn:sn=(fun l v=>l++[v])) (ln:List Int→Nat) (hln:ln=(fun l=>l.length)) (df:List FV→Nat→Nat→Nat→List FV) (hdf:df=(fun l lo hi sz=>(l.drop (lo*sz)).take ((hi-lo)*sz))) (di:List Int→Nat→Nat→List Int) (hdi:di=(fun l lo hi=>(l.drop lo).take (hi-lo))) (ji:List Int→List Int→List Int) (hji:ji=(fun l l'=>l++l')) (jf:List FV→List FV→List FV) (hjf:jf=(fun l l'=>l++l')) (ns:Nat→Nat→Nat) (hns:ns=(fun a b=>a-b)) (NI:List Int→Nat→Int) (hNI:NI=(dI)) (NF:List FV→Nat→FV) (hNF:NF=(nth)) (SE:ByteArray→ByteArray→Bool) (hE:SE=(seStd)) (mu:Nat→Nat→Nat) (hmu:mu=(fun a b=>a*b)) (TX:TF) (hTX:TX=(tfStd)) (na:Nat→Nat→Nat) (hna:na=(fun a b=>a+b)) (AR:lT→IntKind→Int→Int→Int) (hA:AR=(arStd)) (CM:mU→Int→Int→Bool) (hC:CM=(cmStd)) (CK:List RD→Bool) (hK:CK=(fM)) (PV:List Nat→Nat→Bool) (hV:PV=(gD)) (ST:Code→St Pay→(Ex→St Pay→Prop)→Prop) (IN:AG) (hU:gW (nQ KF KE TT AR CM SE NF NI (iC.mk na ns df di jf ji mu) TX mP (rs TX)) (GI TT (rs TX)) (BC TT (rs TX)) CK ST PV (A7 md (rs TX)) (lS (nQ KF KE TT AR CM SE NF NI (iC.mk na ns df di jf ji mu) TX mP (rs TX)) CM NI (iC.mk na ns df di jf ji mu) (MF.mk mem ins kq adq ln sti rep sn tk bi op) (rs TX) IN)) (hI:EA md (rs TX) AR CM SE NF NI (iC.mk na ns df di jf ji mu) TX (MF.mk mem ins kq adq ln sti rep sn tk bi op) CK PV ST IN) (hL:jU (nQ KF KE TT AR CM SE NF NI (iC.mk na ns df di jf ji mu) TX mP (rs TX)) (GI TT (rs TX)) (BC TT (rs TX)) CK ST PV (A7 md (rs TX)) (lS (nQ KF KE TT AR CM SE NF NI (iC.mk na ns df di jf ji mu) TX mP (rs TX)) CM NI (iC.mk na ns df di jf ji mu) (MF.mk mem ins kq adq ln sti rep sn tk bi op) (rs TX) IN)) (hST:ST=KV Tryz.prog F) (Post:SV→List C→Prop) (hN:IN=inS Tryz.prog F) (hsat:∃(w:World) (F:HProp),sat w (star (big cells) F))
   (hP:∀(plan:iZ) (v v':SV) (hp post:List C),v.den=v'.den→gK (dQ plan)=true→dS hp (puts (cY hp plan post) hp) plan post→K v' post→Post v hp),XT2 md (rs TX) AR CM SE NF NI (iC.mk na ns df di jf ji mu) TX (MF.mk mem ins kq adq ln sti rep sn tk bi op) CK PV ST IN code ⟨args++List.replicate (nt-args.length) (.v undef),cells⟩ (uQ TT res Post))
  (hok:dD code=true:=by decide+kernel) (hnm:fn.name≠ "runtime.NumGoroutine":=by decide):inS Tryz.prog F fid args cells K:=by
 have h0:=in_ok2 md rs hfn hf hb hok hnm hnt hres (args:=args) (heap:=cells) (F:=F) (Post:=fun v hp=>∃plan v' post,v.den=v'.den∧gK (dQ plan)=true∧dS hp (puts (cY hp plan post) hp) plan post∧K v' post) (fun AR CM SE NF NI NA TX MM CK PV ST IN hA hC hE hNF hNI hNA hTX hMM hK hV hL hU hI hN hsat hST=>by
  obtain⟨na,ns,df,di,jf,ji,mu⟩:=NA;obtain⟨hna,hns,hdf,hdi,hjf,hji,hmu⟩:=EL hNA;obtain⟨mem,ins,kq,adq,ln,sti,rep,sn,tk,bi,op⟩:=MM;obtain⟨hmem,hins,hkq,hadq,hln,hsti,hrep,hsn,htk,hbi,hop⟩:=KU hMM
  exact h mem hmem ins hins kq hkq adq hadq sti hsti rep hrep tk htk bi hbi op hop sn hsn ln hln df hdf di hdi ji hji jf hjf ns hns NI hNI NF hNF SE hE mu hmu TX hTX na hna AR hA CM hC CK hK PV hV ST IN hU hI hL hST _ hN hsat (fun plan v v' hp post a b c d=>⟨plan,v',post,a,b,c,d⟩))
 refine⟨h0.1,fun w hs=>(h0.2 w hs).mono fun e w' hR=>?_⟩;rcases hR with h1|⟨v,hp,⟨plan,v',post,a,b,c,d⟩,h3,h4⟩
 ·exact .inl h1
 ·exact .inr ⟨v',post,d,by rw[h3,a],qP b c rfl h4⟩
def lit16:Array Value:=#[.int .u8 67,.int .u8 97,.int .u8 109,.int .u8 112,.int .u8 97,.int .u8 105,.int .u8 103,.int .u8 110,.int .u8 84,.int .u8 114,.int .u8 97,.int .u8 110,.int .u8 115,.int .u8 102,.int .u8 101,.int .u8 114]
def lit16L:List Int:=[67,97,109,112,97,105,103,110,84,114,97,110,115,102,101,114]
theorem lit16_at (i:Nat) (h:i<16):lit16[i]?=some (.int .u8 (lit16L.getD i 0)):=by
 match i,h with
 |0,_=>exact rfl|1,_=>exact rfl|2,_=>exact rfl|3,_=>exact rfl|4,_=>exact rfl|5,_=>exact rfl|6,_=>exact rfl|7,_=>exact rfl|8,_=>exact rfl|9,_=>exact rfl|10,_=>exact rfl|11,_=>exact rfl|12,_=>exact rfl|13,_=>exact rfl|14,_=>exact rfl|15,_=>exact rfl|n+16,h=>exact absurd h (by omega)
theorem eq174 (w:World) (x:Option Addr) (c:Nat) (hx:∀a,x=some a→∃b o,a=⟨b,o,none⟩):
  Calls Tryz.prog 174 #[.slice x 0 c,.slice (some ⟨w.heap.size,0,none⟩) 16 16] (w.alloc (.cells lit16 5 (16,17))) fun e w'=>e=.returned (.bool false)∧w'=w.alloc (.cells lit16 5 (16,17)):=by
 have k1:(convert 174 9 (.slice x 0 c)).run Tryz.prog (w.alloc (.cells lit16 5 (16,17)))=.ok (.string (strOfNums [])) (w.alloc (.cells lit16 5 (16,17))):=by
  cases x with
  |none=>exact run_convert_bytes_nil _ 174 5 Tryz.underlying174 Tryz.underlying5 0 c 9 Tryz.underlying9|some a=>obtain⟨b,o,rfl⟩:=hx a rfl;exact run_convert_bytes_arg _ 174 5 Tryz.underlying174 Tryz.underlying5 b o 0 c [] rfl (fun i hi=>absurd hi (by omega)) 9 Tryz.underlying9
 have k2:(convert 174 9 (.slice (some ⟨w.heap.size,0,none⟩) 16 16)).run Tryz.prog (w.alloc (.cells lit16 5 (16,17)))=.ok (.string (strOfNums lit16L)) (w.alloc (.cells lit16 5 (16,17))):=by
  refine run_convert_bytes_arg _ 174 5 Tryz.underlying174 Tryz.underlying5 w.heap.size 0 16 16 lit16L rfl (fun i hi=>?_) 9 Tryz.underlying9;have hh:(w.alloc (.cells lit16 5 (16,17))).heap[w.heap.size]?=some (.cells lit16 5 (16,17)):=by show (w.heap.push (.cells lit16 5 (16,17)))[w.heap.size]?=_;simp
  have e1:(w.alloc (.cells lit16 5 (16,17))).cell? ⟨w.heap.size,0+i,none⟩=lit16[i]?:=by simp only[World.cell?,hh];simp
  rw[e1];exact lit16_at i hi
 go_enter Tryz.func174,Tryz.ntmps174
 go_wp2
 go_ret
 refine⟨congrArg Ending.returned (congrArg Value.bool ?_),rfl⟩;rw[uP,uP];decide
theorem call175 {hp:List C} {F:HProp} {p mb:Nat} {g:Nat→FV} {w:World} (hc:hp.getD p .nil=.prd (.st mb 269 [g 0,g 1,g 2,g 3,g 4,g 5,g 6,g 7,g 8,g 9,g 10,g 11,.bys 5 0 none,g 13])) (hs:sat w (star (big hp) F)):
  Calls Tryz.prog 175 #[.pointer (some ⟨mb,0,none⟩)] w fun e w'=>∃x c,(∀a,x=some a→∃b o,a=⟨b,o,none⟩)∧e=.returned (.slice x 0 c)∧sat w' (star (big hp) F):=by
 rw[bV hp p,hc] at hs
 have h1:=GY (some (mb,g,0,none)) (star (big (hp.set p .nil)) F) w trivial (by
  show sat w (star (star _ emp) _);rw[aO];rw[aA] at hs
  exact hs)
 refine h1.mono fun e w' hR=>?_;rcases hR with hF|⟨β,_,rfl,hs'⟩
 ·exact hF.elim
 ·refine⟨slA (β 3) (β 0) (β 1),β 2,fun a ha=>?_,rfl,?_⟩
  ·cases hn:β 3 with
   |zero=>rw[hn] at ha;cases ha|succ k=>rw[hn] at ha;cases ha;exact⟨_,_,rfl⟩
  ·rw[bV hp p,hc];have h2:sat w' (star (star (Cel.den (.prd (.st mb 269 [g 0,g 1,g 2,g 3,g 4,g 5,g 6,g 7,g 8,g 9,g 10,g 11,.bys 5 0 none,g 13]):C)) (star (Cel.den (.prd (.sl false (β 3) (β 0) (β 1) (β 2) (.bys 5 0 none)):C)) emp)) (star (big (hp.set p .nil)) F)):=hs';have h3:=aI (B:=star (Cel.den (.prd (.sl false (β 3) (β 0) (β 1) (β 2) (.bys 5 0 none)):C)) (star emp (star (star (Cel.den (.prd (.st mb 269 [g 0,g 1,g 2,g 3,g 4,g 5,g 6,g 7,g 8,g 9,g 10,g 11,.bys 5 0 none,g 13]):C)) (big (hp.set p .nil))) F))) h2 (by ac_rfl);exact h3.snd.snd
theorem w_val {o:Oper} {a:Act} {w w':World} {next:Act→World→Prop} {Q:Exit→Act→World→Prop} {v:Value} (h:(execOp a.eval o).run Tryz.prog w=.ok (.value v) w') (hn:next (a.put o.dst v) w'):o.wp Tryz.prog a w next Q:=by unfold Oper.wp;rw[h];exact hn
theorem w_call {o:Oper} {a:Act} {w:World} {next:Act→World→Prop} {Q:Exit→Act→World→Prop} {n:FuncId} {fn:Func} {args:Array Operand} {ts:Array TypeId} (ho:o.op=.call ⟨.value (.func n),args,ts⟩)
  (hf:Tryz.prog.funcs[n]?=some fn) (hb:fn.body.isSome=true) (hnm:fn.name≠ "runtime.NumGoroutine") (h:Calls Tryz.prog n (args.map a.eval) w fun e w'=>∃v,e=.returned v∧next (a.put o.dst v) w'):o.wp Tryz.prog a w next Q:=by
 unfold Oper.wp;have hrun:(execOp a.eval o).run Tryz.prog w=.ok (.enter n (args.map a.eval)) w:=by
  obtain⟨body,hb⟩:=Option.isSome_iff_exists.1 hb;have hf3':(fn.name== "runtime.NumGoroutine")=false:=by simpa using hnm
  simp only[execOp,ho,resolve,Act.eval,Deferred.ofValue];simp only[Sem.run_bind,Sem.run_pure,Result.andThen_ok,invoke,callFunc,run_program,hf];simp only[hf3',Bool.false_eq_true,if_false,hb,Option.isNone_some,Sem.run_pure];congr 2;simp
 rw[hrun];refine h.mono fun e w' hR=>?_;obtain⟨v,rfl,hn⟩:=hR;exact hn
theorem eval_eq {a:Act} {v:Value} {j:Nat} (h:j<a.tmps.size):(a.put (some j) v).eval (.tmp j)=v:=by simp[Act.eval,Act.put,h]
theorem eval_ne {a:Act} {v:Value} {i j:Nat} (h:i≠j):(a.put (some i) v).eval (.tmp j)=a.eval (.tmp j):=by simp[Act.eval,Act.put,h]
theorem r6_wp {σ:St Pay} {F:HProp} {K:Ex→St Pay→Prop} {id p mb hh:Nat} {g:Nat→FV} {o1 o2 o3 o4 o5 o6:Oper}
  (hc:σ.heap.getD p .nil=.prd (.st mb 269 [g 0,g 1,g 2,g 3,g 4,g 5,g 6,g 7,g 8,g 9,g 10,g 11,.bys 5 0 none,g 13])) (h1:σ.tmps[1]?=some (.ptr hh mb 0)) (hl:38<σ.tmps.length)
  (p1:o1.op=.move (.tmp 1)) (d1:o1.dst=some 34) (g1:o1.guard=none)
  (p2:o2.op=.call ⟨.value (.func 175),#[.tmp 34],#[176]⟩) (d2:o2.dst=some 35) (g2:o2.guard=none)
  (p3:o3.op=.buildSlice 174 16 #[(0,.const (.int .u8 67)),(1,.const (.int .u8 97)),(2,.const (.int .u8 109)),(3,.const (.int .u8 112)),(4,.const (.int .u8 97)),(5,.const (.int .u8 105)),(6,.const (.int .u8 103)),(7,.const (.int .u8 110)),(8,.const (.int .u8 84)),(9,.const (.int .u8 114)),(10,.const (.int .u8 97)),(11,.const (.int .u8 110)),(12,.const (.int .u8 115)),(13,.const (.int .u8 102)),(14,.const (.int .u8 101)),(15,.const (.int .u8 114))]) (d3:o3.dst=some 36) (g3:o3.guard=none)
  (p4:o4.op=.convert 174 174 (.tmp 36)) (d4:o4.dst=some 37) (g4:o4.guard=none)
  (p5:o5.op=.call ⟨.value (.func 174),#[.tmp 35,.tmp 37],#[174,174]⟩) (d5:o5.dst=some 38) (g5:o5.guard=none)
  (p6:o6.op=.assign (.tmp 38)) (d6:o6.dst=some 5) (g6:o6.guard=none)
  (hK:∀v2 v3 v4:Value,K .normal ⟨(((((σ.tmps.set 34 (.ptr hh mb 0)).set 35 (.v v2)).set 36 (.v v3)).set 37 (.v v4)).set 38 (.bl false)).set 5 (.bl false),σ.heap⟩):
  KV Tryz.prog F (Code.region id #[o1,o2,o3,o4,o5,o6] false) σ K:=by
 intro Q a w _ hQ hm;refine wp_region_list ?_;have wd:∀o:Oper,o.guard=none→∀y,Region.wanted o y=true:=by intro o h y;simp[Region.wanted,h]
 show wpList Tryz.prog _ Q [o1,o2,o3,o4,o5,o6] a w;obtain⟨ht,hd,hs⟩:=hm;obtain⟨T,hT⟩:∃T:Array Value,T=a.tmps:=⟨_,rfl⟩;have hTl:38<a.tmps.size:=by rw[ht];simpa [bD] using hl
 simp only[wpList,wd _ g1,wd _ g2,wd _ g3,wd _ g4,wd _ g5,wd _ g6,if_true];have v1:a.eval (.tmp 1)=.pointer (some ⟨mb,0,none⟩):=by simp[Act.eval,ht,cH,h1,SV.den]
 refine .inl (w_val (w':=w) (v:=.pointer (some ⟨mb,0,none⟩)) (by simp[execOp,p1,v1]) ?_);rw[d1];refine .inl (w_call p2 Tryz.func175 rfl (by decide) ?_);have v2:(a.put (some 34) (.pointer (some ⟨mb,0,none⟩))).eval (.tmp 34)=.pointer (some ⟨mb,0,none⟩):=by exact eval_eq (by omega)
 simp only[List.map_toArray,List.map_cons,List.map_nil,v2];refine(call175 hc hs).mono ?_;rintro e w1 ⟨x,c,hx,rfl,hs1⟩;refine⟨_,rfl,?_⟩;rw[d2];obtain⟨a2,ha2⟩:∃a2,a2=(a.put (some 34) (.pointer (some ⟨mb,0,none⟩))).put (some 35) (.slice x 0 c):=⟨_,rfl⟩;rw[←ha2];have r3:(execOp a2.eval o3).run Tryz.prog w1=.ok (.value (.slice (some ⟨w1.heap.size,0,none⟩) 16 16)) (w1.alloc (.cells lit16 5)):=by simp[execOp,p3,Act.eval,go_sem,lit16]
 refine .inl (w_val r3 ?_);rw[d3];obtain⟨sl,hsl⟩:∃sl:Value,sl=.slice (some ⟨w1.heap.size,0,none⟩) 16 16:=⟨_,rfl⟩;rw[←hsl];obtain⟨a3,ha3⟩:∃a3,a3=a2.put (some 36) sl:=⟨_,rfl⟩;rw[←ha3];have z2:38<a2.tmps.size:=by rw[ha2];simpa [Act.put] using hTl
 have z3:38<a3.tmps.size:=by rw[ha3];simpa [Act.put] using z2
 have v4:a3.eval (.tmp 36)=sl:=by rw[ha3];exact eval_eq (by omega)
 have r4:(execOp a3.eval o4).run Tryz.prog (w1.alloc (.cells lit16 5))=.ok (.value sl) (w1.alloc (.cells lit16 5 (16,17))):=by have kc:=Go.Lib.run_convert_bytes_const (P:=Tryz.prog) w1 174 5 lit16 16 16 Tryz.underlying174 Tryz.underlying5;rw[←hsl] at kc;simp[execOp,p4,v4,kc];rfl
 refine .inl (w_val r4 ?_);rw[d4];obtain⟨a4,ha4⟩:∃a4,a4=a3.put (some 37) sl:=⟨_,rfl⟩;rw[←ha4];have z4:38<a4.tmps.size:=by rw[ha4];simpa [Act.put] using z3
 refine .inl (w_call p5 Tryz.func174 rfl (by decide) ?_);have v5:a4.eval (.tmp 35)=.slice x 0 c:=by rw[ha4,eval_ne (by decide),ha3,eval_ne (by decide),ha2,eval_eq (by simpa [Act.put] using (by omega:35<a.tmps.size))]
 have v6:a4.eval (.tmp 37)=sl:=by rw[ha4];exact eval_eq (by omega)
 simp only[List.map_toArray,List.map_cons,List.map_nil,v5,v6];rw[hsl];refine(eq174 w1 x c hx).mono ?_;rintro e w2 ⟨rfl,rfl⟩;refine⟨_,rfl,?_⟩;rw[d5];obtain⟨a5,ha5⟩:∃a5,a5=a4.put (some 38) (.bool false):=⟨_,rfl⟩;rw[←ha5];have v7:a5.eval (.tmp 38)=.bool false:=by rw[ha5];exact eval_eq (by omega)
 refine .inl (w_val (w':=w1.alloc (.cells lit16 5 (16,17))) (v:=.bool false) (by simp[execOp,p6,v7]) ?_);rw[d6];refine hQ .normal _ _ _ (hK (.slice x 0 c) sl sl) ⟨?_,?_,(kE (o:=.cells lit16 5 (16,17)) hs1).sat⟩
 ·rw[ha5,ha4,ha3,ha2];simp[Act.put,ht,cH,List.map_set,SV.den]
 ·rw[ha5,ha4,ha3,ha2];exact hd
end Go.Sx
