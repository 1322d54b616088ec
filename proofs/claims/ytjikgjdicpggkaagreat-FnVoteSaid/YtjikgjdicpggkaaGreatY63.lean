import Derived.Test.YtjikgjdicpggkaaGreatY47
import Derived.Test.YtjikgjdicpggkaaGreatY48
import Derived.Test.YtjikgjdicpggkaaGreatY62
set_option autoImplicit true
set_option relaxedAutoImplicit true
set_option linter.all false
set_option maxRecDepth 100000
set_option maxHeartbeats 4000000
namespace Go.Sx
open Go Go.Proofs
def vtM (e:cR) (fr tm ix lt:Int):tT:=⟨5,e.id,fr,tm,lt,ix,0⟩
def vtP (e:cR) (fr tm:Int) (gr:Bool):PW:=⟨tm,match gr with
 |true=>fr
 |false=>if tm=e.tm then e.vo else 0,0,e.co,2,⟨6,some fr,some e.id,some tm,none,none,none,match gr with
 |true=>none
 |false=>some true,none,0,none⟩⟩
def grP (e:cR) (fr tm ix lt:Int):Bool:=((if tm=e.tm then e.vo else 0)==fr||(if tm=e.tm then e.vo else 0)==0)&&(decide ((dU e.ix e.it e.es).2<lt)||(lt==(dU e.ix e.it e.es).2&&decide (e.ix+e.ln≤ix)))
theorem vtM_fs {e:cR} {fr tm ix lt:Int} (h0:0<e.id) (h1:1≤fr) (h2:1≤tm):(vtM e fr tm ix lt).fs 0 none=rvF e.id fr tm (nz lt) (nz ix):=by have e0:nz e.id=some e.id:=wW (by omega);have e1:nz fr=some fr:=wW (by omega);have e2:nz tm=some tm:=wW (by omega);show [FV.oi 266 .i32 (some 5),.oi 22 .u64 (nz e.id),.oi 22 .u64 (nz fr),.oi 22 .u64 (nz tm),_,_,_,_,_,_,_,_,_,_]=_;rw[e0,e1,e2];rfl
theorem last_nth {e:cR} (he:e.ok) (y:Y0):∃a b c,nth (GQ (y.st e)::(y.st e).es) ((y.st e).n-1)=.st 212 [.oi 22 .u64 (some (dU e.ix e.it e.es).2),a,b,c]:=by
 show∃a b c,nth (GQ (y.st e)::entPs e.es) (1+e.ln-1)=_;have h1:=he.es1;rcases Nat.eq_zero_or_pos e.ln with h0|h0
 ·have:e.es=[]:=List.length_eq_zero_iff.1 (by omega);rw[h0,this];exact⟨_,_,_,rfl⟩
 ·have hg:e.es.getLast?=some (e.es[e.ln-1]'(by omega)):=by
   rw[List.getLast?_eq_getElem?];have h9:e.es.length-1=e.ln-1:=by omega
   rw[h9];exact List.getElem?_eq_getElem _
  have hl:dU e.ix e.it e.es=((e.es[e.ln-1]'(by omega)).i,(e.es[e.ln-1]'(by omega)).t):=by unfold dU;rw[hg]
  rw[hl,show 1+e.ln-1=(e.ln-1)+1 by omega];show∃a b c,nth (entPs e.es) (e.ln-1)=_;rw[kI,List.getElem?_eq_getElem (by omega)];exact⟨_,_,_,rfl⟩
theorem vt_he {e:cR} (he:e.ok) {β:Nat→Nat} {fr ix lt:Int} (hfr:1≤fr)
  (y:Y0) (hy:ok0 e β y) (mb:Nat) (K':SV→List C→Prop) (F:HProp) (hk:∀(hp:List C) (q:NS),okN e (vtP e fr e.tm (grP e fr e.tm ix lt)) q→LT e y q→(∀(w:World) (H:HProp),sat w (star (big hp) H)→sat w (star q.nd H))→K' (.v .nilIface) hp):
   inS Tryz.prog F 139 [.ptr 0 y.b 0,.ptr 11 mb 0] (fI (y.rf e) y.o y.lf (.v (.slice none 0 0)) (.v (.slice none 0 0)) e.V.l y.P2 (y.g e) (EZ e.ls) y.ab e.z (y.st e)++[.prd (.st mb 269 ((vtM e fr e.tm ix lt).fs 0 none))]) K':=by
 rw[vtM_fs he.id0 hfr he.tm0];have h1:=he.ix0;have h2:=he.ix1;have h3:=he.es2;have h4:=he.V9;have h5:=he.L4;refine s139v (x:=y.rf e) (s:=y.st e) (g:=y.g e) (h1:=.pointer (some ⟨y.hv,0,none⟩)) (h2:=.pointer (some ⟨y.sv,0,none⟩)) (lt:=lt) (ix:=ix) (tl:=(dU e.ix e.it e.es).2) (la:=e.ix+e.ln) hy.tk (by omega) (by show 0≤e.ix;omega) h2 (by show 1≤1+e.ln;omega) (by show 1+e.ln≤100000;omega)
  (by show e.ix+e.ln+1=e.ix+((1+e.ln:Nat):Int);omega) he.tm0 hfr (yU lt) (yU ix) (by show _=e.ix+((1+e.ln:Nat):Int)-1;omega) (last_nth he y) rfl rfl (fun gr d2 d4 d1 rb off cap nn hgr=>?_) F
 have hg:gr=grP e fr e.tm ix lt:=by rw[hgr];unfold grP;rw[if_pos rfl];rfl
 rw[←hg] at hk;refine hk _ (mkN e y {y.rf e with vote:=if gr then fr else (y.rf e).vote} y.o y.lf (.v (.slice none 0 0)) (.v (.slice (slA nn rb off) 1 cap)) y.P2 (y.g e) y.ab {y.st e with c1:=d1,c2:=d2,c4:=d4} (.pointer (some ⟨y.hv,0,none⟩)) (.pointer (some ⟨y.sv,0,none⟩)) (big [.prd (Pay.sl true nn rb off cap (.sl 176 1 1 [vrF fr e.id e.tm (if gr then none else some true)]))])) ?_ ⟨rfl,rfl,rfl,rfl,rfl,rfl,rfl,rfl,rfl⟩ ?_
 ·refine⟨rfl,rfl,?_,rfl,rfl,rfl,rfl,rfl,rfl,rfl,rfl,rfl,⟨nn,rb,off,cap,rfl,rfl,?_⟩⟩
  ·cases gr with
   |true=>rfl|false=>show e.vo=if e.tm=e.tm then e.vo else 0;rw[if_pos rfl]
  ·cases gr<;>rfl
 ·intro w H h0;rw[bF,fX] at h0;exact ac4 h0
theorem vt_hg {e:cR} (he:e.ok) {β:Nat→Nat} {fr tm ix lt:Int} (hfr:1≤fr) (ht:e.tm<tm)
  (y:Y0) (hy:ok0 e β y) (mb:Nat) (K':SV→List C→Prop) (F:HProp) (hk:∀(hp:List C) (q:NS),okN e (vtP e fr tm (grP e fr tm ix lt)) q→LT e y q→(∀(w:World) (H:HProp),sat w (star (big hp) H)→sat w (star q.nd H))→K' (.v .nilIface) hp):
   inS Tryz.prog F 139 [.ptr 0 y.b 0,.ptr 11 mb 0] (fI (y.rf e) y.o y.lf (.v (.slice none 0 0)) (.v (.slice none 0 0)) e.V.l y.P2 (y.g e) (EZ e.ls) y.ab e.z (y.st e)++[.prd (.st mb 269 ((vtM e fr tm ix lt).fs 0 none))]) K':=by
 have h0:=he.tm0;rw[vtM_fs he.id0 hfr (by omega)];have h1:=he.ix0;have h2:=he.ix1;have h3:=he.es2;have h4:=he.V9;have h5:=he.L4;have h6:=he.et0;have h7:=he.et1;have h8:=he.ht0;have h9:=nxP_0 e.z.l;refine s139w (x:=y.rf e) (s:=y.st e) (g:=y.g e) (h1:=.pointer (some ⟨y.hv,0,none⟩)) (h2:=.pointer (some ⟨y.sv,0,none⟩)) (lt:=lt) (ix:=ix) (tl:=(dU e.ix e.it e.es).2) (la:=e.ix+e.ln) (rt2:=EB e.et (rndP (e.z.Z,e.z.l,e.nx2,e.et))) (nx2:=nxP (e.z.l,e.nx2)) hy.tk (by omega) (by show 0≤e.ix;omega) h2 (by show 1≤1+e.ln;omega) (by show 1+e.ln≤100000;omega)
  (by show e.ix+e.ln+1=e.ix+((1+e.ln:Nat):Int);omega) (by omega) hfr (yU lt) (yU ix) (by show _=e.ix+((1+e.ln:Nat):Int)-1;omega) (last_nth he y) ht rfl h9.1 (by show nxP (e.z.l,0)<_;omega) he.z0 rfl rfl (by show 0<e.et;omega) (by show e.et≤1000;omega) (fun gr d2 d4 d1 rb off cap nn P2 wb ob ab2 hT2 hgr=>?_) F
 have hg:gr=grP e fr tm ix lt:=by rw[hgr];unfold grP;rw[if_neg (by omega)];simp
 rw[←hg] at hk;refine hk _ (mkN e y {y.rf e with term:=tm,vote:=if gr then fr else 0,rt:=EB e.et (rndP (e.z.Z,e.z.l,e.nx2,e.et)),nx:=nxP (e.z.l,e.nx2),wb:=wb,ob:=ob} y.o y.lf (.v (.slice none 0 0)) (.v (.slice (slA nn rb off) 1 cap)) P2 (y.g e) ab2 {y.st e with c1:=d1,c2:=d2,c4:=d4} (.pointer (some ⟨y.hv,0,none⟩)) (.pointer (some ⟨y.sv,0,none⟩)) (big [.prd (Pay.sl true nn rb off cap (.sl 176 1 1 [vrF fr e.id tm (if gr then none else some true)]))])) ?_ ⟨rfl,rfl,rfl,rfl,rfl,rfl,rfl,rfl,rfl⟩ ?_
 ·refine⟨rfl,rfl,?_,rfl,rfl,rfl,rfl,rfl,rfl,rfl,rfl,rfl,⟨nn,rb,off,cap,rfl,rfl,?_⟩⟩
  ·cases gr with
   |true=>rfl|false=>show (0:Int)=if tm=e.tm then e.vo else 0;rw[if_neg (by omega)]
  ·cases gr<;>rfl
 ·intro w H h0;rw[bF,fX] at h0;exact ac4 h0
def lvV (e:cR):PW:=⟨e.tm,e.vo,0,e.co,0,⟨4,none,none,none,none,none,none,none,none,0,none⟩⟩
theorem vt_l {e:cR} (he:e.ok) {β:Nat→Nat} {fr tm ix lt:Int} (hfr:1≤fr) (htm:1≤tm) (ht:tm<e.tm)
  (y:Y0) (hy:ok0 e β y) (mb:Nat) (K':SV→List C→Prop) (F:HProp) (hk:∀(hp:List C) (q:NS),okN e (lvV e) q→LT e y q→(∀(w:World) (H:HProp),sat w (star (big hp) H)→sat w (star q.nd H))→K' (.v .nilIface) hp):
   inS Tryz.prog F 139 [.ptr 0 y.b 0,.ptr 11 mb 0] (fI (y.rf e) y.o y.lf (.v (.slice none 0 0)) (.v (.slice none 0 0)) e.V.l y.P2 (y.g e) (EZ e.ls) y.ab e.z (y.st e)++[.prd (.st mb 269 ((vtM e fr tm ix lt).fs 0 none))]) K':=by
 rw[vtM_fs he.id0 hfr htm];refine s139lv (L:=[]) (x:=y.rf e) (s:=y.st e) (g:=y.g e) (h1:=.pointer (some ⟨y.hv,0,none⟩)) (h2:=.pointer (some ⟨y.sv,0,none⟩)) htm ht ?_ F;refine hk _ (mkN e y (y.rf e) y.o y.lf (.v (.slice none 0 0)) (.v (.slice none 0 0)) y.P2 (y.g e) y.ab (y.st e) (.pointer (some ⟨y.hv,0,none⟩)) (.pointer (some ⟨y.sv,0,none⟩)) emp) ?_ ⟨rfl,rfl,rfl,rfl,rfl,rfl,rfl,rfl,rfl⟩ ?_
 ·exact⟨rfl,rfl,rfl,rfl,rfl,rfl,rfl,rfl,rfl,rfl,rfl,rfl,⟨rfl,rfl,rfl⟩⟩
 ·intro w H h0;rw[fX] at h0;exact ac5 h0
theorem ndV_ok {e:cR} (he:e.ok) (h3:e.ok3) {fr tm ix lt:Int} (hfr:1≤fr) (hid:fr≠e.id) (ht:e.tm≤tm):
  (CS e (vtP e fr tm (grP e fr tm ix lt)) 2 (vtM e fr tm ix lt) ⟨#[]⟩).ok:=by
 obtain⟨f1,f2⟩:=he.apv0;have f3:=he.co1;have f4:=he.tm0;have hCO:(vtP e fr tm (grP e fr tm ix lt)).CO≤e.ix+e.ln:=f3;refine CV he (fun nb β=>yK (n:=0) (cx:=none) ⟨rfl,rfl⟩ (.inl rfl) (fun y hy mb K' F hk=>?_)) (fun nb β=>?_)
 ·rcases Int.lt_or_eq_of_le ht with h|h
  ·exact vt_hg he hfr h y hy mb K' F hk
  ·subst h;exact vt_he he hfr y hy mb K' F hk
 ·rcases Int.lt_or_eq_of_le f2 with h|h
  ·exact AK he h3 rfl (by show 1≤tm;omega) hCO h rfl (by show (0:Int)≤6;decide) (by show (6:Int)≤100;decide) ⟨_,rfl,hid⟩ ⟨_,rfl⟩
  ·exact AJ he h3 rfl (by show 1≤tm;omega) hCO h.symm rfl (by show (0:Int)≤6;decide) (by show (6:Int)≤100;decide) ⟨_,rfl,hid⟩ ⟨_,rfl⟩
def lvVK (e:cR):Nat:=match decide (e.co=e.apv) with
 |true=>3|false=>0
theorem ndVL_ok {e:cR} (he:e.ok) (h3:e.ok3) {fr tm ix lt:Int} (hfr:1≤fr) (htm:1≤tm) (ht:tm<e.tm):
  (CS e (lvV e) (lvVK e) (vtM e fr tm ix lt) ⟨#[]⟩).ok:=by
 obtain⟨f1,f2⟩:=he.apv0;have f3:=he.co1;have f4:=he.tm0;refine CV he (fun nb β=>yK (n:=0) (cx:=none) ⟨rfl,rfl⟩ (.inl rfl) (fun y hy mb K' F hk=>vt_l he hfr htm ht y hy mb K' F hk)) (fun nb β=>?_);have hhb:vR e (lvV e)=true:=by unfold vR lvV;simp
 rcases Decidable.em (e.co=e.apv) with h|h
 ·have hk:lvVK e=3:=by unfold lvVK;simp[h]
  rw[hk];exact BK he h3 rfl f4 f3 h rfl hhb
 ·have hk:lvVK e=0:=by unfold lvVK;simp[h]
  rw[hk];exact zT he h3 rfl f4 f3 (by show e.apv<e.co;omega) rfl hhb
end Go.Sx
