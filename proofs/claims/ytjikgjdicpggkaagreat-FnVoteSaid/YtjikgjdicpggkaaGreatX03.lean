import Derived.Test.YtjikgjdicpggkaaGreatX02
set_option autoImplicit true
set_option relaxedAutoImplicit true
set_option linter.all false
set_option maxRecDepth 100000
set_option maxHeartbeats 4000000
namespace Go.Sx
open Go Go.Proofs
def lB (d:Int):Option Int→Int
 |some n=>n|none=>d
def optB:Option Bool→Bool
 |some n=>n|none=>false
def NL:Option (TypeId×List FV)→FV
 |some (T,fs)=>.st T fs|none=>.np
def iP (a1 a2:List SV→Nat→(Nat→Nat)→SM Pay (Delta Pay)) (args:List SV) (base:Nat) (β:Nat→Nat):SM Pay (Delta Pay):=match args with
 |x::_=>match x with
  |.ptr h _ _=>.rdS h fun r=>match r with
   |true=>a2 args base β|false=>a1 args base β
  |_=>a1 args base β
 |_=>a1 args base β
theorem r7 {P:Program} {f:FuncId} {a1 a2:List SV→Nat→(Nat→Nat)→SM Pay (Delta Pay)} (h1:CallOK P f a1) (h2:CallOK P f a2):CallOK P f (iP a1 a2):=by
 intro args base σ F w hs hv;have c1:(∀β,(iP a1 a2 args base β).val σ=(a1 args base β).val σ)→Calls P f (SV.dens args).toArray w fun e w'=>False∨∃β d,(iP a1 a2 args base β).val σ=some d∧d.factP∧e=.returned d.res.den∧sat w' (star (big (puts d.ws σ.heap)) F):=by intro e;simp only[e] at hv⊢;exact h1 args base σ F w hs hv
 have c2:(∀β,(iP a1 a2 args base β).val σ=(a2 args base β).val σ)→Calls P f (SV.dens args).toArray w fun e w'=>False∨∃β d,(iP a1 a2 args base β).val σ=some d∧d.factP∧e=.returned d.res.den∧sat w' (star (big (puts d.ws σ.heap)) F):=by intro e;simp only[e] at hv⊢;exact h2 args base σ F w hs hv
 cases args with
 |nil=>exact c1 fun β=>rfl|cons x r=>
  cases x with
  |ptr h b off=>
   cases hr:(σ.heap.getD h .nil).isRaw with
   |true=>exact c2 fun β=>by simp only[iP,tE,hr]
   |false=>exact c1 fun β=>by simp only[iP,tE,hr]
  |_=>exact c1 fun β=>rfl
def mkF (x:FV) (g:Nat→FV) (j:Nat) (i:Nat):Nat→List FV
 |0=>[]|n+1=>(match Nat.beq i j with|true=>x|false=>g i)::mkF x g j (i+1) n
def mkS (x:SV) (g:Nat→SV) (j:Nat) (i:Nat):Nat→List SV
 |0=>[]|n+1=>(match Nat.beq i j with|true=>x|false=>g i)::mkS x g j (i+1) n
def gI (T j n T2:Nat) (k:IntKind):cJ Pay where
 X:=Option (Nat×Option Int×(Nat→FV))
 args:=fun x=>match x with
  |some (b,_)=>[.ptr 0 b 0]|none=>[.v (.pointer none)]
 pre:=fun x=>match x with
  |some (b,o,g)=>[.prd (.st b T (mkF (.oi T2 k o) g j 0 n))]|none=>[]
 res:=fun x _=>match x with
  |some (_,o,_)=>.i k (lB 0 o)|none=>.i k 0
def mI (T j n T2:Nat) (k:IntKind) (args:List SV):SM Pay ((gI T j n T2 k).X×List Nat):=match args with
 |[x]=>match x with
  |.ptr h _ _=>.rdC h fun c=>match c with
   |.prd (.st b _ fs)=>match nth fs j with
    |.oi _ _ o=>.ret (some (b,o,nth fs),[h])|_=>.fail
   |_=>.fail
  |_=>.ret (none,[])
 |_=>.fail
def rA (T j n T2:Nat) (k:IntKind):cJ Pay where
 X:=Bool×Nat×(Nat→SV)×Option (Bool×Nat×Int)
 args:=fun x=>[.ptr 0 x.2.1 0]
 pre:=fun x=>match x with
  |(own,b,s,some (own1,b1,v))=>[.raw own b T (mkS (.ptr 1 b1 0) s j 0 n),.raw own1 b1 T2 [.i k v]]|(own,b,s,none)=>[.raw own b T (mkS (.v (.pointer none)) s j 0 n)]
 res:=fun x _=>match x with
  |(_,_,_,some (_,_,v))=>.i k v|(_,_,_,none)=>.i k 0
def mIr (T j n T2:Nat) (k:IntKind) (args:List SV):SM Pay ((rA T j n T2 k).X×List Nat):=match args with
 |[x]=>match x with
  |.ptr h _ _=>.rdC h fun c=>match c with
   |.raw own b _ cs=>match bE cs j with
    |.ptr h1 b1 _=>.rdC h1 fun c=>match c with
     |.raw own1 _ _ [c]=>match bG c with
      |some (_,_,v)=>.ret ((own,b,bE cs,some (own1,b1,v)),[h,h1])|none=>.fail
     |_=>.fail
    |.v _=>.ret ((own,b,bE cs,none),[h])|_=>.fail
   |_=>.fail
  |_=>.fail
 |_=>.fail
def uI {T j n T2:Nat} {k:IntKind} (f:Nat) (h1:(gI T j n T2 k).ok Tryz.prog f) (h2:(rA T j n T2 k).ok Tryz.prog f):aN:=⟨f,0,false,iP ((gI T j n T2 k).app (mI T j n T2 k)) ((rA T j n T2 k).app (mIr T j n T2 k)),r7 (cJ.app_ok h1 _) (cJ.app_ok h2 _),fun _ args base β β'=>rfl⟩
def gB (T j n T2:Nat):cJ Pay where
 X:=Option (Nat×Option Bool×(Nat→FV))
 args:=fun x=>match x with
  |some (b,_)=>[.ptr 0 b 0]|none=>[.v (.pointer none)]
 pre:=fun x=>match x with
  |some (b,o,g)=>[.prd (.st b T (mkF (.ob T2 o) g j 0 n))]|none=>[]
 res:=fun x _=>match x with
  |some (_,o,_)=>.bl (optB o)|none=>.bl false
def mB (T j n T2:Nat) (args:List SV):SM Pay ((gB T j n T2).X×List Nat):=match args with
 |[x]=>match x with
  |.ptr h _ _=>.rdC h fun c=>match c with
   |.prd (.st b _ fs)=>match nth fs j with
    |.ob _ o=>.ret (some (b,o,nth fs),[h])|_=>.fail
   |_=>.fail
  |_=>.ret (none,[])
 |_=>.fail
def gBr (T j n T2:Nat):cJ Pay where
 X:=Bool×Nat×(Nat→SV)×Option (Bool×Nat×Bool)
 args:=fun x=>[.ptr 0 x.2.1 0]
 pre:=fun x=>match x with
  |(own,b,s,some (own1,b1,v))=>[.raw own b T (mkS (.ptr 1 b1 0) s j 0 n),.raw own1 b1 T2 [.bl v]]|(own,b,s,none)=>[.raw own b T (mkS (.v (.pointer none)) s j 0 n)]
 res:=fun x _=>match x with
  |(_,_,_,some (_,_,v))=>.bl v|(_,_,_,none)=>.bl false
def mBr (T j n T2:Nat) (args:List SV):SM Pay ((gBr T j n T2).X×List Nat):=match args with
 |[x]=>match x with
  |.ptr h _ _=>.rdC h fun c=>match c with
   |.raw own b _ cs=>match bE cs j with
    |.ptr h1 b1 _=>.rdC h1 fun c=>match c with
     |.raw own1 _ _ [c]=>match c with
      |.bl v=>.ret ((own,b,bE cs,some (own1,b1,v)),[h,h1])|_=>.fail
     |_=>.fail
    |.v _=>.ret ((own,b,bE cs,none),[h])|_=>.fail
   |_=>.fail
  |_=>.fail
 |_=>.fail
def uB {T j n T2:Nat} (f:Nat) (h1:(gB T j n T2).ok Tryz.prog f) (h2:(gBr T j n T2).ok Tryz.prog f):aN:=⟨f,0,false,iP ((gB T j n T2).app (mB T j n T2)) ((gBr T j n T2).app (mBr T j n T2)),r7 (cJ.app_ok h1 _) (cJ.app_ok h2 _),fun _ args base β β'=>rfl⟩
theorem cG117:(gI 226 0 3 22 .u64).ok Tryz.prog 117:=by
 refine cA Tryz.func117 Tryz.ntmps117 rfl rfl ?_;intros;rename_i x hP;rcases x with _|⟨b,_|o,g⟩
 ·cbv;exact hP (fun _=>0) [] _ _ rfl (by cbv)
 ·cbv;repeat (intro β;cbv)
  exact hP (fun _=>0) [(0,0)] _ _ rfl (by cbv;try simp)
 ·cbv;repeat (intro β;cbv)
  exact hP (fun _=>0) [(0,0)] _ _ rfl (by cbv;try simp)
theorem N0:(rA 226 0 3 22 .u64).ok Tryz.prog 117:=by
 refine cA Tryz.func117 Tryz.ntmps117 rfl rfl ?_;intros;rename_i x hP;rcases x with ⟨own,b,s,_|⟨own1,b1,v⟩⟩
 ·cbv;repeat (intro β;cbv)
  exact hP (fun _=>0) [(0,0)] _ _ rfl (by cbv;try simp)
 ·cbv;repeat (intro β;cbv)
  exact hP (fun _=>0) [(0,0),(1,0)] _ _ rfl (by cbv;try simp)
theorem fG:cI 117:=⟨_,Tryz.func117,rfl,by decide⟩
def fH:aN:=uI 117 cG117 N0
theorem cG118:(gI 226 1 3 22 .u64).ok Tryz.prog 118:=by
 refine cA Tryz.func118 Tryz.ntmps118 rfl rfl ?_;intros;rename_i x hP;rcases x with _|⟨b,_|o,g⟩
 ·cbv;exact hP (fun _=>0) [] _ _ rfl (by cbv)
 ·cbv;repeat (intro β;cbv)
  exact hP (fun _=>0) [(0,0)] _ _ rfl (by cbv;try simp)
 ·cbv;repeat (intro β;cbv)
  exact hP (fun _=>0) [(0,0)] _ _ rfl (by cbv;try simp)
theorem NZ:(rA 226 1 3 22 .u64).ok Tryz.prog 118:=by
 refine cA Tryz.func118 Tryz.ntmps118 rfl rfl ?_;intros;rename_i x hP;rcases x with ⟨own,b,s,_|⟨own1,b1,v⟩⟩
 ·cbv;repeat (intro β;cbv)
  exact hP (fun _=>0) [(0,0)] _ _ rfl (by cbv;try simp)
 ·cbv;repeat (intro β;cbv)
  exact hP (fun _=>0) [(0,0),(1,0)] _ _ rfl (by cbv;try simp)
theorem fE:cI 118:=⟨_,Tryz.func118,rfl,by decide⟩
def fL:aN:=uI 118 cG118 NZ
theorem cG119:(gI 226 2 3 22 .u64).ok Tryz.prog 119:=by
 refine cA Tryz.func119 Tryz.ntmps119 rfl rfl ?_;intros;rename_i x hP;rcases x with _|⟨b,_|o,g⟩
 ·cbv;exact hP (fun _=>0) [] _ _ rfl (by cbv)
 ·cbv;repeat (intro β;cbv)
  exact hP (fun _=>0) [(0,0)] _ _ rfl (by cbv;try simp)
 ·cbv;repeat (intro β;cbv)
  exact hP (fun _=>0) [(0,0)] _ _ rfl (by cbv;try simp)
theorem OV:(rA 226 2 3 22 .u64).ok Tryz.prog 119:=by
 refine cA Tryz.func119 Tryz.ntmps119 rfl rfl ?_;intros;rename_i x hP;rcases x with ⟨own,b,s,_|⟨own1,b1,v⟩⟩
 ·cbv;repeat (intro β;cbv)
  exact hP (fun _=>0) [(0,0)] _ _ rfl (by cbv;try simp)
 ·cbv;repeat (intro β;cbv)
  exact hP (fun _=>0) [(0,0),(1,0)] _ _ rfl (by cbv;try simp)
theorem fP:cI 119:=⟨_,Tryz.func119,rfl,by decide⟩
def fQ:aN:=uI 119 cG119 OV
theorem cG121:(gI 221 1 3 22 .u64).ok Tryz.prog 121:=by
 refine cA Tryz.func121 Tryz.ntmps121 rfl rfl ?_;intros;rename_i x hP;rcases x with _|⟨b,_|o,g⟩
 ·cbv;exact hP (fun _=>0) [] _ _ rfl (by cbv)
 ·cbv;repeat (intro β;cbv)
  exact hP (fun _=>0) [(0,0)] _ _ rfl (by cbv;try simp)
 ·cbv;repeat (intro β;cbv)
  exact hP (fun _=>0) [(0,0)] _ _ rfl (by cbv;try simp)
theorem MO:(rA 221 1 3 22 .u64).ok Tryz.prog 121:=by
 refine cA Tryz.func121 Tryz.ntmps121 rfl rfl ?_;intros;rename_i x hP;rcases x with ⟨own,b,s,_|⟨own1,b1,v⟩⟩
 ·cbv;repeat (intro β;cbv)
  exact hP (fun _=>0) [(0,0)] _ _ rfl (by cbv;try simp)
 ·cbv;repeat (intro β;cbv)
  exact hP (fun _=>0) [(0,0),(1,0)] _ _ rfl (by cbv;try simp)
theorem x121:cI 121:=⟨_,Tryz.func121,rfl,by decide⟩
def r121:aN:=uI 121 cG121 MO
theorem cG122:(gI 221 2 3 22 .u64).ok Tryz.prog 122:=by
 refine cA Tryz.func122 Tryz.ntmps122 rfl rfl ?_;intros;rename_i x hP;rcases x with _|⟨b,_|o,g⟩
 ·cbv;exact hP (fun _=>0) [] _ _ rfl (by cbv)
 ·cbv;repeat (intro β;cbv)
  exact hP (fun _=>0) [(0,0)] _ _ rfl (by cbv;try simp)
 ·cbv;repeat (intro β;cbv)
  exact hP (fun _=>0) [(0,0)] _ _ rfl (by cbv;try simp)
theorem M6:(rA 221 2 3 22 .u64).ok Tryz.prog 122:=by
 refine cA Tryz.func122 Tryz.ntmps122 rfl rfl ?_;intros;rename_i x hP;rcases x with ⟨own,b,s,_|⟨own1,b1,v⟩⟩
 ·cbv;repeat (intro β;cbv)
  exact hP (fun _=>0) [(0,0)] _ _ rfl (by cbv;try simp)
 ·cbv;repeat (intro β;cbv)
  exact hP (fun _=>0) [(0,0),(1,0)] _ _ rfl (by cbv;try simp)
theorem x122:cI 122:=⟨_,Tryz.func122,rfl,by decide⟩
def r122:aN:=uI 122 cG122 M6
theorem cG129:(gI 212 1 4 22 .u64).ok Tryz.prog 129:=by
 refine cA Tryz.func129 Tryz.ntmps129 rfl rfl ?_;intros;rename_i x hP;rcases x with _|⟨b,_|o,g⟩
 ·cbv;exact hP (fun _=>0) [] _ _ rfl (by cbv)
 ·cbv;repeat (intro β;cbv)
  exact hP (fun _=>0) [(0,0)] _ _ rfl (by cbv;try simp)
 ·cbv;repeat (intro β;cbv)
  exact hP (fun _=>0) [(0,0)] _ _ rfl (by cbv;try simp)
theorem NK:(rA 212 1 4 22 .u64).ok Tryz.prog 129:=by
 refine cA Tryz.func129 Tryz.ntmps129 rfl rfl ?_;intros;rename_i x hP;rcases x with ⟨own,b,s,_|⟨own1,b1,v⟩⟩
 ·cbv;repeat (intro β;cbv)
  exact hP (fun _=>0) [(0,0)] _ _ rfl (by cbv;try simp)
 ·cbv;repeat (intro β;cbv)
  exact hP (fun _=>0) [(0,0),(1,0)] _ _ rfl (by cbv;try simp)
theorem gJ:cI 129:=⟨_,Tryz.func129,rfl,by decide⟩
def fZ:aN:=uI 129 cG129 NK
theorem cG138:(gB 229 4 5 4).ok Tryz.prog 138:=by
 refine cA Tryz.func138 Tryz.ntmps138 rfl rfl ?_;intros;rename_i x hP;rcases x with _|⟨b,_|o,g⟩
 ·cbv;exact hP (fun _=>0) [] _ _ rfl (by cbv)
 ·cbv;repeat (intro β;cbv)
  exact hP (fun _=>0) [(0,0)] _ _ rfl (by cbv;try simp)
 ·cbv;repeat (intro β;cbv)
  exact hP (fun _=>0) [(0,0)] _ _ rfl (by cbv;try simp)
theorem OR:(gBr 229 4 5 4).ok Tryz.prog 138:=by
 refine cA Tryz.func138 Tryz.ntmps138 rfl rfl ?_;intros;rename_i x hP;rcases x with ⟨own,b,s,_|⟨own1,b1,v⟩⟩
 ·cbv;repeat (intro β;cbv)
  exact hP (fun _=>0) [(0,0)] _ _ rfl (by cbv;try simp)
 ·cbv;repeat (intro β;cbv)
  exact hP (fun _=>0) [(0,0),(1,0)] _ _ rfl (by cbv;try simp)
theorem x138:cI 138:=⟨_,Tryz.func138,rfl,by decide⟩
def r138:aN:=uB 138 cG138 OR
theorem cG142:(gI 269 0 14 266 .i32).ok Tryz.prog 142:=by
 refine cA Tryz.func142 Tryz.ntmps142 rfl rfl ?_;intros;rename_i x hP;rcases x with _|⟨b,_|o,g⟩
 ·cbv;exact hP (fun _=>0) [] _ _ rfl (by cbv)
 ·cbv;repeat (intro β;cbv)
  exact hP (fun _=>0) [(0,0)] _ _ rfl (by cbv;try simp)
 ·cbv;repeat (intro β;cbv)
  exact hP (fun _=>0) [(0,0)] _ _ rfl (by cbv;try simp)
theorem LZ:(rA 269 0 14 266 .i32).ok Tryz.prog 142:=by
 refine cA Tryz.func142 Tryz.ntmps142 rfl rfl ?_;intros;rename_i x hP;rcases x with ⟨own,b,s,_|⟨own1,b1,v⟩⟩
 ·cbv;repeat (intro β;cbv)
  exact hP (fun _=>0) [(0,0)] _ _ rfl (by cbv;try simp)
 ·cbv;repeat (intro β;cbv)
  exact hP (fun _=>0) [(0,0),(1,0)] _ _ rfl (by cbv;try simp)
theorem xI:cI 142:=⟨_,Tryz.func142,rfl,by decide⟩
def wS:aN:=uI 142 cG142 LZ
theorem cG144:(gI 269 2 14 22 .u64).ok Tryz.prog 144:=by
 refine cA Tryz.func144 Tryz.ntmps144 rfl rfl ?_;intros;rename_i x hP;rcases x with _|⟨b,_|o,g⟩
 ·cbv;exact hP (fun _=>0) [] _ _ rfl (by cbv)
 ·cbv;repeat (intro β;cbv)
  exact hP (fun _=>0) [(0,0)] _ _ rfl (by cbv;try simp)
 ·cbv;repeat (intro β;cbv)
  exact hP (fun _=>0) [(0,0)] _ _ rfl (by cbv;try simp)
theorem NO:(rA 269 2 14 22 .u64).ok Tryz.prog 144:=by
 refine cA Tryz.func144 Tryz.ntmps144 rfl rfl ?_;intros;rename_i x hP;rcases x with ⟨own,b,s,_|⟨own1,b1,v⟩⟩
 ·cbv;repeat (intro β;cbv)
  exact hP (fun _=>0) [(0,0)] _ _ rfl (by cbv;try simp)
 ·cbv;repeat (intro β;cbv)
  exact hP (fun _=>0) [(0,0),(1,0)] _ _ rfl (by cbv;try simp)
theorem zX:cI 144:=⟨_,Tryz.func144,rfl,by decide⟩
def AO:aN:=uI 144 cG144 NO
theorem cG161:(gI 212 0 4 22 .u64).ok Tryz.prog 161:=by
 refine cA Tryz.func161 Tryz.ntmps161 rfl rfl ?_;intros;rename_i x hP;rcases x with _|⟨b,_|o,g⟩
 ·cbv;exact hP (fun _=>0) [] _ _ rfl (by cbv)
 ·cbv;repeat (intro β;cbv)
  exact hP (fun _=>0) [(0,0)] _ _ rfl (by cbv;try simp)
 ·cbv;repeat (intro β;cbv)
  exact hP (fun _=>0) [(0,0)] _ _ rfl (by cbv;try simp)
theorem ML:(rA 212 0 4 22 .u64).ok Tryz.prog 161:=by
 refine cA Tryz.func161 Tryz.ntmps161 rfl rfl ?_;intros;rename_i x hP;rcases x with ⟨own,b,s,_|⟨own1,b1,v⟩⟩
 ·cbv;repeat (intro β;cbv)
  exact hP (fun _=>0) [(0,0)] _ _ rfl (by cbv;try simp)
 ·cbv;repeat (intro β;cbv)
  exact hP (fun _=>0) [(0,0),(1,0)] _ _ rfl (by cbv;try simp)
theorem NY:cI 161:=⟨_,Tryz.func161,rfl,by decide⟩
def OG:aN:=uI 161 cG161 ML
theorem cG173:(gI 269 3 14 22 .u64).ok Tryz.prog 173:=by
 refine cA Tryz.func173 Tryz.ntmps173 rfl rfl ?_;intros;rename_i x hP;rcases x with _|⟨b,_|o,g⟩
 ·cbv;exact hP (fun _=>0) [] _ _ rfl (by cbv)
 ·cbv;repeat (intro β;cbv)
  exact hP (fun _=>0) [(0,0)] _ _ rfl (by cbv;try simp)
 ·cbv;repeat (intro β;cbv)
  exact hP (fun _=>0) [(0,0)] _ _ rfl (by cbv;try simp)
theorem NH:(rA 269 3 14 22 .u64).ok Tryz.prog 173:=by
 refine cA Tryz.func173 Tryz.ntmps173 rfl rfl ?_;intros;rename_i x hP;rcases x with ⟨own,b,s,_|⟨own1,b1,v⟩⟩
 ·cbv;repeat (intro β;cbv)
  exact hP (fun _=>0) [(0,0)] _ _ rfl (by cbv;try simp)
 ·cbv;repeat (intro β;cbv)
  exact hP (fun _=>0) [(0,0),(1,0)] _ _ rfl (by cbv;try simp)
theorem AI:cI 173:=⟨_,Tryz.func173,rfl,by decide⟩
def zK:aN:=uI 173 cG173 NH
theorem cG176:(gB 269 10 14 4).ok Tryz.prog 176:=by
 refine cA Tryz.func176 Tryz.ntmps176 rfl rfl ?_;intros;rename_i x hP;rcases x with _|⟨b,_|o,g⟩
 ·cbv;exact hP (fun _=>0) [] _ _ rfl (by cbv)
 ·cbv;repeat (intro β;cbv)
  exact hP (fun _=>0) [(0,0)] _ _ rfl (by cbv;try simp)
 ·cbv;repeat (intro β;cbv)
  exact hP (fun _=>0) [(0,0)] _ _ rfl (by cbv;try simp)
theorem MP:(gBr 269 10 14 4).ok Tryz.prog 176:=by
 refine cA Tryz.func176 Tryz.ntmps176 rfl rfl ?_;intros;rename_i x hP;rcases x with ⟨own,b,s,_|⟨own1,b1,v⟩⟩
 ·cbv;repeat (intro β;cbv)
  exact hP (fun _=>0) [(0,0)] _ _ rfl (by cbv;try simp)
 ·cbv;repeat (intro β;cbv)
  exact hP (fun _=>0) [(0,0),(1,0)] _ _ rfl (by cbv;try simp)
theorem x176:cI 176:=⟨_,Tryz.func176,rfl,by decide⟩
def r176:aN:=uB 176 cG176 MP
theorem cG179:(gI 269 5 14 22 .u64).ok Tryz.prog 179:=by
 refine cA Tryz.func179 Tryz.ntmps179 rfl rfl ?_;intros;rename_i x hP;rcases x with _|⟨b,_|o,g⟩
 ·cbv;exact hP (fun _=>0) [] _ _ rfl (by cbv)
 ·cbv;repeat (intro β;cbv)
  exact hP (fun _=>0) [(0,0)] _ _ rfl (by cbv;try simp)
 ·cbv;repeat (intro β;cbv)
  exact hP (fun _=>0) [(0,0)] _ _ rfl (by cbv;try simp)
theorem M5:(rA 269 5 14 22 .u64).ok Tryz.prog 179:=by
 refine cA Tryz.func179 Tryz.ntmps179 rfl rfl ?_;intros;rename_i x hP;rcases x with ⟨own,b,s,_|⟨own1,b1,v⟩⟩
 ·cbv;repeat (intro β;cbv)
  exact hP (fun _=>0) [(0,0)] _ _ rfl (by cbv;try simp)
 ·cbv;repeat (intro β;cbv)
  exact hP (fun _=>0) [(0,0),(1,0)] _ _ rfl (by cbv;try simp)
theorem x179:cI 179:=⟨_,Tryz.func179,rfl,by decide⟩
def r179:aN:=uI 179 cG179 M5
theorem cG184:(gI 269 4 14 22 .u64).ok Tryz.prog 184:=by
 refine cA Tryz.func184 Tryz.ntmps184 rfl rfl ?_;intros;rename_i x hP;rcases x with _|⟨b,_|o,g⟩
 ·cbv;exact hP (fun _=>0) [] _ _ rfl (by cbv)
 ·cbv;repeat (intro β;cbv)
  exact hP (fun _=>0) [(0,0)] _ _ rfl (by cbv;try simp)
 ·cbv;repeat (intro β;cbv)
  exact hP (fun _=>0) [(0,0)] _ _ rfl (by cbv;try simp)
theorem MD:(rA 269 4 14 22 .u64).ok Tryz.prog 184:=by
 refine cA Tryz.func184 Tryz.ntmps184 rfl rfl ?_;intros;rename_i x hP;rcases x with ⟨own,b,s,_|⟨own1,b1,v⟩⟩
 ·cbv;repeat (intro β;cbv)
  exact hP (fun _=>0) [(0,0)] _ _ rfl (by cbv;try simp)
 ·cbv;repeat (intro β;cbv)
  exact hP (fun _=>0) [(0,0),(1,0)] _ _ rfl (by cbv;try simp)
theorem x184:cI 184:=⟨_,Tryz.func184,rfl,by decide⟩
def r184:aN:=uI 184 cG184 MD
theorem cG203:(gI 212 2 4 306 .i32).ok Tryz.prog 203:=by
 refine cA Tryz.func203 Tryz.ntmps203 rfl rfl ?_;intros;rename_i x hP;rcases x with _|⟨b,_|o,g⟩
 ·cbv;exact hP (fun _=>0) [] _ _ rfl (by cbv)
 ·cbv;repeat (intro β;cbv)
  exact hP (fun _=>0) [(0,0)] _ _ rfl (by cbv;try simp)
 ·cbv;repeat (intro β;cbv)
  exact hP (fun _=>0) [(0,0)] _ _ rfl (by cbv;try simp)
theorem M3:(rA 212 2 4 306 .i32).ok Tryz.prog 203:=by
 refine cA Tryz.func203 Tryz.ntmps203 rfl rfl ?_;intros;rename_i x hP;rcases x with ⟨own,b,s,_|⟨own1,b1,v⟩⟩
 ·cbv;repeat (intro β;cbv)
  exact hP (fun _=>0) [(0,0)] _ _ rfl (by cbv;try simp)
 ·cbv;repeat (intro β;cbv)
  exact hP (fun _=>0) [(0,0),(1,0)] _ _ rfl (by cbv;try simp)
theorem x203:cI 203:=⟨_,Tryz.func203,rfl,by decide⟩
def r203:aN:=uI 203 cG203 M3
theorem cG232:(gI 269 1 14 22 .u64).ok Tryz.prog 232:=by
 refine cA Tryz.func232 Tryz.ntmps232 rfl rfl ?_;intros;rename_i x hP;rcases x with _|⟨b,_|o,g⟩
 ·cbv;exact hP (fun _=>0) [] _ _ rfl (by cbv)
 ·cbv;repeat (intro β;cbv)
  exact hP (fun _=>0) [(0,0)] _ _ rfl (by cbv;try simp)
 ·cbv;repeat (intro β;cbv)
  exact hP (fun _=>0) [(0,0)] _ _ rfl (by cbv;try simp)
theorem L9:(rA 269 1 14 22 .u64).ok Tryz.prog 232:=by
 refine cA Tryz.func232 Tryz.ntmps232 rfl rfl ?_;intros;rename_i x hP;rcases x with ⟨own,b,s,_|⟨own1,b1,v⟩⟩
 ·cbv;repeat (intro β;cbv)
  exact hP (fun _=>0) [(0,0)] _ _ rfl (by cbv;try simp)
 ·cbv;repeat (intro β;cbv)
  exact hP (fun _=>0) [(0,0),(1,0)] _ _ rfl (by cbv;try simp)
theorem qX:cI 232:=⟨_,Tryz.func232,rfl,by decide⟩
def qW:aN:=uI 232 cG232 L9
theorem cG257:(gI 269 7 14 22 .u64).ok Tryz.prog 257:=by
 refine cA Tryz.func257 Tryz.ntmps257 rfl rfl ?_;intros;rename_i x hP;rcases x with _|⟨b,_|o,g⟩
 ·cbv;exact hP (fun _=>0) [] _ _ rfl (by cbv)
 ·cbv;repeat (intro β;cbv)
  exact hP (fun _=>0) [(0,0)] _ _ rfl (by cbv;try simp)
 ·cbv;repeat (intro β;cbv)
  exact hP (fun _=>0) [(0,0)] _ _ rfl (by cbv;try simp)
theorem M8:(rA 269 7 14 22 .u64).ok Tryz.prog 257:=by
 refine cA Tryz.func257 Tryz.ntmps257 rfl rfl ?_;intros;rename_i x hP;rcases x with ⟨own,b,s,_|⟨own1,b1,v⟩⟩
 ·cbv;repeat (intro β;cbv)
  exact hP (fun _=>0) [(0,0)] _ _ rfl (by cbv;try simp)
 ·cbv;repeat (intro β;cbv)
  exact hP (fun _=>0) [(0,0),(1,0)] _ _ rfl (by cbv;try simp)
theorem B8:cI 257:=⟨_,Tryz.func257,rfl,by decide⟩
def CP:aN:=uI 257 cG257 M8
theorem cG258:(gI 269 8 14 22 .u64).ok Tryz.prog 258:=by
 refine cA Tryz.func258 Tryz.ntmps258 rfl rfl ?_;intros;rename_i x hP;rcases x with _|⟨b,_|o,g⟩
 ·cbv;exact hP (fun _=>0) [] _ _ rfl (by cbv)
 ·cbv;repeat (intro β;cbv)
  exact hP (fun _=>0) [(0,0)] _ _ rfl (by cbv;try simp)
 ·cbv;repeat (intro β;cbv)
  exact hP (fun _=>0) [(0,0)] _ _ rfl (by cbv;try simp)
theorem N5:(rA 269 8 14 22 .u64).ok Tryz.prog 258:=by
 refine cA Tryz.func258 Tryz.ntmps258 rfl rfl ?_;intros;rename_i x hP;rcases x with ⟨own,b,s,_|⟨own1,b1,v⟩⟩
 ·cbv;repeat (intro β;cbv)
  exact hP (fun _=>0) [(0,0)] _ _ rfl (by cbv;try simp)
 ·cbv;repeat (intro β;cbv)
  exact hP (fun _=>0) [(0,0),(1,0)] _ _ rfl (by cbv;try simp)
theorem x258:cI 258:=⟨_,Tryz.func258,rfl,by decide⟩
def r258:aN:=uI 258 cG258 N5
theorem cG259:(gI 269 11 14 22 .u64).ok Tryz.prog 259:=by
 refine cA Tryz.func259 Tryz.ntmps259 rfl rfl ?_;intros;rename_i x hP;rcases x with _|⟨b,_|o,g⟩
 ·cbv;exact hP (fun _=>0) [] _ _ rfl (by cbv)
 ·cbv;repeat (intro β;cbv)
  exact hP (fun _=>0) [(0,0)] _ _ rfl (by cbv;try simp)
 ·cbv;repeat (intro β;cbv)
  exact hP (fun _=>0) [(0,0)] _ _ rfl (by cbv;try simp)
theorem NR:(rA 269 11 14 22 .u64).ok Tryz.prog 259:=by
 refine cA Tryz.func259 Tryz.ntmps259 rfl rfl ?_;intros;rename_i x hP;rcases x with ⟨own,b,s,_|⟨own1,b1,v⟩⟩
 ·cbv;repeat (intro β;cbv)
  exact hP (fun _=>0) [(0,0)] _ _ rfl (by cbv;try simp)
 ·cbv;repeat (intro β;cbv)
  exact hP (fun _=>0) [(0,0),(1,0)] _ _ rfl (by cbv;try simp)
theorem x259:cI 259:=⟨_,Tryz.func259,rfl,by decide⟩
def r259:aN:=uI 259 cG259 NR
theorem cG354:(gI 388 1 2 22 .u64).ok Tryz.prog 354:=by
 refine cA Tryz.func354 Tryz.ntmps354 rfl rfl ?_;intros;rename_i x hP;rcases x with _|⟨b,_|o,g⟩
 ·cbv;exact hP (fun _=>0) [] _ _ rfl (by cbv)
 ·cbv;repeat (intro β;cbv)
  exact hP (fun _=>0) [(0,0)] _ _ rfl (by cbv;try simp)
 ·cbv;repeat (intro β;cbv)
  exact hP (fun _=>0) [(0,0)] _ _ rfl (by cbv;try simp)
theorem OZ:(rA 388 1 2 22 .u64).ok Tryz.prog 354:=by
 refine cA Tryz.func354 Tryz.ntmps354 rfl rfl ?_;intros;rename_i x hP;rcases x with ⟨own,b,s,_|⟨own1,b1,v⟩⟩
 ·cbv;repeat (intro β;cbv)
  exact hP (fun _=>0) [(0,0)] _ _ rfl (by cbv;try simp)
 ·cbv;repeat (intro β;cbv)
  exact hP (fun _=>0) [(0,0),(1,0)] _ _ rfl (by cbv;try simp)
theorem OA:cI 354:=⟨_,Tryz.func354,rfl,by decide⟩
def M1:aN:=uI 354 cG354 OZ
theorem cG355:(gI 388 0 2 205 .i32).ok Tryz.prog 355:=by
 refine cA Tryz.func355 Tryz.ntmps355 rfl rfl ?_;intros;rename_i x hP;rcases x with _|⟨b,_|o,g⟩
 ·cbv;exact hP (fun _=>0) [] _ _ rfl (by cbv)
 ·cbv;repeat (intro β;cbv)
  exact hP (fun _=>0) [(0,0)] _ _ rfl (by cbv;try simp)
 ·cbv;repeat (intro β;cbv)
  exact hP (fun _=>0) [(0,0)] _ _ rfl (by cbv;try simp)
theorem MH:(rA 388 0 2 205 .i32).ok Tryz.prog 355:=by
 refine cA Tryz.func355 Tryz.ntmps355 rfl rfl ?_;intros;rename_i x hP;rcases x with ⟨own,b,s,_|⟨own1,b1,v⟩⟩
 ·cbv;repeat (intro β;cbv)
  exact hP (fun _=>0) [(0,0)] _ _ rfl (by cbv;try simp)
 ·cbv;repeat (intro β;cbv)
  exact hP (fun _=>0) [(0,0),(1,0)] _ _ rfl (by cbv;try simp)
theorem MN:cI 355:=⟨_,Tryz.func355,rfl,by decide⟩
def OX:aN:=uI 355 cG355 MH
end Go.Sx
