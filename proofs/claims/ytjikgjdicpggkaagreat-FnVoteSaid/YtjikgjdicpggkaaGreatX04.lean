import Derived.Sort.Defs
import Derived.Test.YtjikgjdicpggkaaGreatX03
set_option autoImplicit true
set_option relaxedAutoImplicit true
set_option linter.all false
set_option maxRecDepth 100000
set_option maxHeartbeats 4000000
namespace Go.Sx
open Go Go.Proofs
def oN (t v c:Int):List FV:=[.oi 22 .u64 (some t),.oi 22 .u64 (some v),.oi 22 .u64 (some c)]
def c89:cJ Pay where
 X:=Int×Int×Int
 args:=fun(t,v,c)=>[.agg [.i .u64 t,.i .u64 v,.i .u64 c]]
 pre:=fun _=>[]
 nf:=1
 res:=fun _ β=>.ptr 0 (β 0) 0
 ws:=fun(t,v,c) β=>[.cel 0 (.prd (.st (β 0) 226 (oN t v c)))]
theorem OD:c89.ok Tryz.prog 89:=by
 refine aJ ⟨false,false⟩ (fun _=>[]) (fun _=>.nil) _ Tryz.func89 Tryz.ntmps89 rfl rfl ?_;intros;rename_i x _ _ _ _ hP;obtain⟨t,v,c⟩:=x;cbv;repeat' first|exact O5|intro β;cbv|apply O4
 exact hP β [(4,1)] _ _ rfl bM
def m89 (args:List SV):SM Pay (c89.X×List Nat):=match args with
 |[.agg [t,v,c]]=>match bG t,bG v,bG c with
  |some (_,_,t),some (_,_,v),some (_,_,c)=>.ret ((t,v,c),[])|_,_,_=>.fail
 |_=>.fail
theorem x89:cI 89:=⟨_,Tryz.func89,rfl,by decide⟩
def r89:aN:=⟨89,1,true,c89.app m89,c89.app_ok OD m89,fun h=>by cases h⟩
def nz (n:Int):Option Int:=match n==0 with
 |true=>none|false=>some n
def IK:cJ Pay where
 X:=Int
 args:=fun n=>[.i .u64 n]
 pre:=fun _=>[]
 nf:=1
 res:=fun n β=>.hv 0 (ptV (β 1) (β 0))
 ws:=fun n β=>[.cel 0 (.prd (.im (ptV (β 1) (β 0)) (.oi 22 .u64 (nz n))))]
theorem I2:IK.ok Tryz.prog 146:=by
 refine aJ ⟨false,false⟩ (fun _=>[]) (fun _=>.nil) _ Tryz.func146 Tryz.ntmps146 rfl rfl ?_;intros;rename_i CM hC _ _ _ _ _ _ _ _ _ _ x _ _ _ _ hP;change Int at x
 by_cases h:x=0
 ·subst h;have h1:CM .eq 0 0=true:=by rw[hC];rfl
  cbv;repeat' first|exact O5|intro β;cbv|apply O4
  rw[h1];cbv;repeat' first|exact O5|intro β;cbv|apply O4
  exact hP (fun _=>0) [(0,1)] _ _ rfl bM
 ·have h1:CM .eq x 0=false:=by rw[hC];simpa [cmStd] using h
  have h2:nz x=some x:=by
   have:(x==0)=false:=by simpa using h
   simp only[nz,this]
  cbv;repeat' first|exact O5|intro β;cbv|apply O4
  rw[h1];cbv;repeat' first|exact O5|intro β;cbv|apply O4
  refine hP (fun|0=>β 0|_=>1) [(0,1)] _ _ rfl ⟨trivial,rfl,rfl,?_⟩;show dS _ _ [(0,1)] [.prd (.im _ (.oi 22 .u64 (nz x)))];rw[h2];exact bM
def m146 (args:List SV):SM Pay (IK.X×List Nat):=match args with
 |[n]=>match bG n with
  |some (_,_,n)=>.ret (n,[])|none=>.fail
 |_=>.fail
theorem x146:cI 146:=⟨_,Tryz.func146,rfl,by decide⟩
def r146:aN:=⟨146,1,true,IK.app m146,IK.app_ok I2 m146,fun h=>by cases h⟩
def c93:cJ Pay where
 X:=Nat×Option Int×Option Int×Option Int
 args:=fun(b,t,v,c)=>[.ptr 0 b 0]
 pre:=fun(b,t,v,c)=>[.prd (.st b 226 [.oi 22 .u64 t,.oi 22 .u64 v,.oi 22 .u64 c])]
 res:=fun(_,t,v,c) _=>.agg [.i .u64 (lB 0 t),.i .u64 (lB 0 v),.i .u64 (lB 0 c)]
theorem MS:c93.ok Tryz.prog 93:=by
 refine aJ ⟨false,false⟩ (fun _=>[fH,fL,fQ]) (fun _=>(.cons fG (.cons fE (.cons fP .nil)))) _ Tryz.func93 Tryz.ntmps93 rfl rfl ?_;intros;rename_i x _ _ _ _ hP;obtain⟨b,t,v,c⟩:=x;cbv;repeat' first|exact O5|intro β;cbv|apply O4
 exact hP (fun _=>0) [(0,0)] _ _ rfl bM
def m93 (args:List SV):SM Pay (c93.X×List Nat):=match args with
 |[.ptr h _ _]=>.rdC h fun c=>match c with
  |.prd (.st b _ [.oi _ _ t,.oi _ _ v,.oi _ _ c])=>.ret ((b,t,v,c),[h])|_=>.fail
 |_=>.fail
theorem x93:cI 93:=⟨_,Tryz.func93,rfl,by decide⟩
def r93:aN:=⟨93,0,false,c93.app m93,c93.app_ok MS m93,fun _ args base β β'=>rfl⟩
def GC:cJ Pay where
 X:=Option (Nat×(Nat→FV)×Option (TypeId×List FV))
 args:=fun x=>match x with
  |some (b,_)=>[.ptr 0 b 0]|none=>[.v (.pointer none)]
 pre:=fun x=>match x with
  |some (b,g,o)=>[.prd (.st b 223 [g 0,NL o])]|none=>[]
 nf:=1
 res:=fun x β=>match x with
  |some (b,g,some (T,fs))=>.ptr 1 (β 0) 0|_=>.v (.pointer none)
 ws:=fun x β=>match x with
  |some (b,g,some (T,fs))=>[.cel 1 (.prd (.st (β 0) T fs))]|_=>[]
theorem H7:GC.ok Tryz.prog 120:=by
 refine aJ ⟨false,false⟩ (fun _=>[]) (fun _=>.nil) _ Tryz.func120 Tryz.ntmps120 rfl rfl ?_;intros;rename_i x _ _ _ _ hP;rcases x with _|⟨b,g,_|⟨T,fs⟩⟩
 ·cbv;repeat' first|exact O5|intro β;cbv|apply O4
  exact hP (fun _=>0) [(0,1)] _ _ rfl bM
 ·cbv;repeat' first|exact O5|intro β;cbv|apply O4
  exact hP (fun _=>0) [(0,0),(0,1)] _ _ rfl bM
 ·cbv;repeat' first|exact O5|intro β;cbv|apply O4
  exact hP β [(0,0),(1,0)] _ _ rfl bM
def m120 (args:List SV):SM Pay (GC.X×List Nat):=match args with
 |[x]=>match x with
  |.ptr h _ _=>.rdC h fun c=>match c with
   |.prd (.st b _ fs)=>match nth fs 1 with
    |.st T fs'=>.ret (some (b,nth fs,some (T,fs')),[h])|.np=>.ret (some (b,nth fs,none),[h])|_=>.fail
   |_=>.fail
  |_=>.ret (none,[])
 |_=>.fail
theorem x120:cI 120:=⟨_,Tryz.func120,rfl,by decide⟩
def r120:aN:=⟨120,1,true,GC.app m120,GC.app_ok H7 m120,fun h=>by cases h⟩
def I0:cJ Pay where
 X:=Option (Nat×(Nat→FV)×Option (TypeId×List FV))
 args:=fun x=>match x with
  |some (b,_)=>[.ptr 0 b 0]|none=>[.v (.pointer none)]
 pre:=fun x=>match x with
  |some (b,g,o)=>[.prd (.st b 221 [NL o,g 1,g 2])]|none=>[]
 nf:=1
 res:=fun x β=>match x with
  |some (b,g,some (T,fs))=>.ptr 1 (β 0) 0|_=>.v (.pointer none)
 ws:=fun x β=>match x with
  |some (b,g,some (T,fs))=>[.cel 1 (.prd (.st (β 0) T fs))]|_=>[]
theorem JQ:I0.ok Tryz.prog 125:=by
 refine aJ ⟨false,false⟩ (fun _=>[]) (fun _=>.nil) _ Tryz.func125 Tryz.ntmps125 rfl rfl ?_;intros;rename_i x _ _ _ _ hP;rcases x with _|⟨b,g,_|⟨T,fs⟩⟩
 ·cbv;repeat' first|exact O5|intro β;cbv|apply O4
  exact hP (fun _=>0) [(0,1)] _ _ rfl bM
 ·cbv;repeat' first|exact O5|intro β;cbv|apply O4
  exact hP (fun _=>0) [(0,0),(0,1)] _ _ rfl bM
 ·cbv;repeat' first|exact O5|intro β;cbv|apply O4
  exact hP β [(0,0),(1,0)] _ _ rfl bM
def m125 (args:List SV):SM Pay (I0.X×List Nat):=match args with
 |[x]=>match x with
  |.ptr h _ _=>.rdC h fun c=>match c with
   |.prd (.st b _ fs)=>match nth fs 0 with
    |.st T fs'=>.ret (some (b,nth fs,some (T,fs')),[h])|.np=>.ret (some (b,nth fs,none),[h])|_=>.fail
   |_=>.fail
  |_=>.ret (none,[])
 |_=>.fail
theorem x125:cI 125:=⟨_,Tryz.func125,rfl,by decide⟩
def r125:aN:=⟨125,1,true,I0.app m125,I0.app_ok JQ m125,fun h=>by cases h⟩
def I8:cJ Pay where
 X:=Option (Nat×(Nat→FV)×Nat×List Int)
 args:=fun x=>match x with
  |some (b,_)=>[.ptr 0 b 0]|none=>[.v (.pointer none)]
 pre:=fun x=>match x with
  |some (b,g,n,l)=>[.prd (.st b 229 [.ul 22 .u64 n l,g 1,g 2,g 3,g 4])]|none=>[]
 nf:=1
 res:=fun x β=>match x with
  |some (b,g,n,l)=>.sl 1 (β 3) (β 0) (β 1) n (β 2)|none=>.v (.slice none 0 0)
 ws:=fun x β=>match x with
  |some (b,g,n,l)=>[.cel 1 (.prd (.sl false (β 3) (β 0) (β 1) (β 2) (.ul 22 .u64 n l)))]|none=>[]
theorem IP:I8.ok Tryz.prog 134:=by
 refine aJ ⟨false,false⟩ (fun _=>[]) (fun _=>.nil) _ Tryz.func134 Tryz.ntmps134 rfl rfl ?_;intros;rename_i x _ _ _ _ hP;rcases x with _|⟨b,g,n,l⟩
 ·cbv;repeat' first|exact O5|intro β;cbv|apply O4
  exact hP (fun _=>0) [(0,1)] _ _ rfl bM
 ·cbv;repeat' first|exact O5|intro β;cbv|apply O4
  exact hP β [(0,0),(1,0)] _ _ rfl bM
def m134 (args:List SV):SM Pay (I8.X×List Nat):=match args with
 |[x]=>match x with
  |.ptr h _ _=>.rdC h fun c=>match c with
   |.prd (.st b _ fs)=>match nth fs 0 with
    |.ul _ _ n l=>.ret (some (b,nth fs,n,l),[h])|_=>.fail
   |_=>.fail
  |_=>.ret (none,[])
 |_=>.fail
theorem x134:cI 134:=⟨_,Tryz.func134,rfl,by decide⟩
def r134:aN:=⟨134,1,true,I8.app m134,I8.app_ok IP m134,fun h=>by cases h⟩
def IU:cJ Pay where
 X:=Option (Nat×(Nat→FV)×Nat×List Int)
 args:=fun x=>match x with
  |some (b,_)=>[.ptr 0 b 0]|none=>[.v (.pointer none)]
 pre:=fun x=>match x with
  |some (b,g,n,l)=>[.prd (.st b 229 [g 0,.ul 22 .u64 n l,g 2,g 3,g 4])]|none=>[]
 nf:=1
 res:=fun x β=>match x with
  |some (b,g,n,l)=>.sl 1 (β 3) (β 0) (β 1) n (β 2)|none=>.v (.slice none 0 0)
 ws:=fun x β=>match x with
  |some (b,g,n,l)=>[.cel 1 (.prd (.sl false (β 3) (β 0) (β 1) (β 2) (.ul 22 .u64 n l)))]|none=>[]
theorem FP:IU.ok Tryz.prog 135:=by
 refine aJ ⟨false,false⟩ (fun _=>[]) (fun _=>.nil) _ Tryz.func135 Tryz.ntmps135 rfl rfl ?_;intros;rename_i x _ _ _ _ hP;rcases x with _|⟨b,g,n,l⟩
 ·cbv;repeat' first|exact O5|intro β;cbv|apply O4
  exact hP (fun _=>0) [(0,1)] _ _ rfl bM
 ·cbv;repeat' first|exact O5|intro β;cbv|apply O4
  exact hP β [(0,0),(1,0)] _ _ rfl bM
def m135 (args:List SV):SM Pay (IU.X×List Nat):=match args with
 |[x]=>match x with
  |.ptr h _ _=>.rdC h fun c=>match c with
   |.prd (.st b _ fs)=>match nth fs 1 with
    |.ul _ _ n l=>.ret (some (b,nth fs,n,l),[h])|_=>.fail
   |_=>.fail
  |_=>.ret (none,[])
 |_=>.fail
theorem x135:cI 135:=⟨_,Tryz.func135,rfl,by decide⟩
def r135:aN:=⟨135,1,true,IU.app m135,IU.app_ok FP m135,fun h=>by cases h⟩
def JP:cJ Pay where
 X:=Option (Nat×(Nat→FV)×Nat×List Int)
 args:=fun x=>match x with
  |some (b,_)=>[.ptr 0 b 0]|none=>[.v (.pointer none)]
 pre:=fun x=>match x with
  |some (b,g,n,l)=>[.prd (.st b 229 [g 0,g 1,.ul 22 .u64 n l,g 3,g 4])]|none=>[]
 nf:=1
 res:=fun x β=>match x with
  |some (b,g,n,l)=>.sl 1 (β 3) (β 0) (β 1) n (β 2)|none=>.v (.slice none 0 0)
 ws:=fun x β=>match x with
  |some (b,g,n,l)=>[.cel 1 (.prd (.sl false (β 3) (β 0) (β 1) (β 2) (.ul 22 .u64 n l)))]|none=>[]
theorem GT:JP.ok Tryz.prog 136:=by
 refine aJ ⟨false,false⟩ (fun _=>[]) (fun _=>.nil) _ Tryz.func136 Tryz.ntmps136 rfl rfl ?_;intros;rename_i x _ _ _ _ hP;rcases x with _|⟨b,g,n,l⟩
 ·cbv;repeat' first|exact O5|intro β;cbv|apply O4
  exact hP (fun _=>0) [(0,1)] _ _ rfl bM
 ·cbv;repeat' first|exact O5|intro β;cbv|apply O4
  exact hP β [(0,0),(1,0)] _ _ rfl bM
def m136 (args:List SV):SM Pay (JP.X×List Nat):=match args with
 |[x]=>match x with
  |.ptr h _ _=>.rdC h fun c=>match c with
   |.prd (.st b _ fs)=>match nth fs 2 with
    |.ul _ _ n l=>.ret (some (b,nth fs,n,l),[h])|_=>.fail
   |_=>.fail
  |_=>.ret (none,[])
 |_=>.fail
theorem x136:cI 136:=⟨_,Tryz.func136,rfl,by decide⟩
def r136:aN:=⟨136,1,true,JP.app m136,JP.app_ok GT m136,fun h=>by cases h⟩
def JU:cJ Pay where
 X:=Option (Nat×(Nat→FV)×Nat×List Int)
 args:=fun x=>match x with
  |some (b,_)=>[.ptr 0 b 0]|none=>[.v (.pointer none)]
 pre:=fun x=>match x with
  |some (b,g,n,l)=>[.prd (.st b 229 [g 0,g 1,g 2,.ul 22 .u64 n l,g 4])]|none=>[]
 nf:=1
 res:=fun x β=>match x with
  |some (b,g,n,l)=>.sl 1 (β 3) (β 0) (β 1) n (β 2)|none=>.v (.slice none 0 0)
 ws:=fun x β=>match x with
  |some (b,g,n,l)=>[.cel 1 (.prd (.sl false (β 3) (β 0) (β 1) (β 2) (.ul 22 .u64 n l)))]|none=>[]
theorem F0:JU.ok Tryz.prog 137:=by
 refine aJ ⟨false,false⟩ (fun _=>[]) (fun _=>.nil) _ Tryz.func137 Tryz.ntmps137 rfl rfl ?_;intros;rename_i x _ _ _ _ hP;rcases x with _|⟨b,g,n,l⟩
 ·cbv;repeat' first|exact O5|intro β;cbv|apply O4
  exact hP (fun _=>0) [(0,1)] _ _ rfl bM
 ·cbv;repeat' first|exact O5|intro β;cbv|apply O4
  exact hP β [(0,0),(1,0)] _ _ rfl bM
def m137 (args:List SV):SM Pay (JU.X×List Nat):=match args with
 |[x]=>match x with
  |.ptr h _ _=>.rdC h fun c=>match c with
   |.prd (.st b _ fs)=>match nth fs 3 with
    |.ul _ _ n l=>.ret (some (b,nth fs,n,l),[h])|_=>.fail
   |_=>.fail
  |_=>.ret (none,[])
 |_=>.fail
theorem x137:cI 137:=⟨_,Tryz.func137,rfl,by decide⟩
def r137:aN:=⟨137,1,true,JU.app m137,JU.app_ok F0 m137,fun h=>by cases h⟩
def H9:cJ Pay where
 X:=Option (Nat×(Nat→FV)×Nat×Option (List UInt8))
 args:=fun x=>match x with
  |some (b,_)=>[.ptr 0 b 0]|none=>[.v (.pointer none)]
 pre:=fun x=>match x with
  |some (b,g,n,l)=>[.prd (.st b 269 [g 0,g 1,g 2,g 3,g 4,g 5,g 6,g 7,g 8,g 9,g 10,g 11,.bys 5 n l,g 13])]|none=>[]
 nf:=1
 res:=fun x β=>match x with
  |some (b,g,n,l)=>.sl 1 (β 3) (β 0) (β 1) n (β 2)|none=>.v (.slice none 0 0)
 ws:=fun x β=>match x with
  |some (b,g,n,l)=>[.cel 1 (.prd (.sl false (β 3) (β 0) (β 1) (β 2) (.bys 5 n l)))]|none=>[]
theorem GY:H9.ok Tryz.prog 175:=by
 refine aJ ⟨false,false⟩ (fun _=>[]) (fun _=>.nil) _ Tryz.func175 Tryz.ntmps175 rfl rfl ?_;intros;rename_i x _ _ _ _ hP;rcases x with _|⟨b,g,n,l⟩
 ·cbv;repeat' first|exact O5|intro β;cbv|apply O4
  exact hP (fun _=>0) [(0,1)] _ _ rfl bM
 ·cbv;repeat' first|exact O5|intro β;cbv|apply O4
  exact hP β [(0,0),(1,0)] _ _ rfl bM
def m175 (args:List SV):SM Pay (H9.X×List Nat):=match args with
 |[x]=>match x with
  |.ptr h _ _=>.rdC h fun c=>match c with
   |.prd (.st b _ fs)=>match nth fs 12 with
    |.bys _ n l=>.ret (some (b,nth fs,n,l),[h])|_=>.fail
   |_=>.fail
  |_=>.ret (none,[])
 |_=>.fail
theorem EM:cI 175:=⟨_,Tryz.func175,rfl,by decide⟩
def C0:aN:=⟨175,1,true,H9.app m175,H9.app_ok GY m175,fun h=>by cases h⟩
def FT:cJ Pay where
 X:=Option (Nat×(Nat→FV)×Option (TypeId×List FV))
 args:=fun x=>match x with
  |some (b,_)=>[.ptr 0 b 0]|none=>[.v (.pointer none)]
 pre:=fun x=>match x with
  |some (b,g,o)=>[.prd (.st b 269 [g 0,g 1,g 2,g 3,g 4,g 5,g 6,g 7,g 8,NL o,g 10,g 11,g 12,g 13])]|none=>[]
 nf:=1
 res:=fun x β=>match x with
  |some (b,g,some (T,fs))=>.ptr 1 (β 0) 0|_=>.v (.pointer none)
 ws:=fun x β=>match x with
  |some (b,g,some (T,fs))=>[.cel 1 (.prd (.st (β 0) T fs))]|_=>[]
theorem FI:FT.ok Tryz.prog 180:=by
 refine aJ ⟨false,false⟩ (fun _=>[]) (fun _=>.nil) _ Tryz.func180 Tryz.ntmps180 rfl rfl ?_;intros;rename_i x _ _ _ _ hP;rcases x with _|⟨b,g,_|⟨T,fs⟩⟩
 ·cbv;repeat' first|exact O5|intro β;cbv|apply O4
  exact hP (fun _=>0) [(0,1)] _ _ rfl bM
 ·cbv;repeat' first|exact O5|intro β;cbv|apply O4
  exact hP (fun _=>0) [(0,0),(0,1)] _ _ rfl bM
 ·cbv;repeat' first|exact O5|intro β;cbv|apply O4
  exact hP β [(0,0),(1,0)] _ _ rfl bM
def m180 (args:List SV):SM Pay (FT.X×List Nat):=match args with
 |[x]=>match x with
  |.ptr h _ _=>.rdC h fun c=>match c with
   |.prd (.st b _ fs)=>match nth fs 9 with
    |.st T fs'=>.ret (some (b,nth fs,some (T,fs')),[h])|.np=>.ret (some (b,nth fs,none),[h])|_=>.fail
   |_=>.fail
  |_=>.ret (none,[])
 |_=>.fail
theorem x180:cI 180:=⟨_,Tryz.func180,rfl,by decide⟩
def r180:aN:=⟨180,1,true,FT.app m180,FT.app_ok FI m180,fun h=>by cases h⟩
def JH:cJ Pay where
 X:=Option (Nat×(Nat→FV)×Nat×List FV)
 args:=fun x=>match x with
  |some (b,_)=>[.ptr 0 b 0]|none=>[.v (.pointer none)]
 pre:=fun x=>match x with
  |some (b,g,n,l)=>[.prd (.st b 269 [g 0,g 1,g 2,g 3,g 4,g 5,.sl 209 1 n l,g 7,g 8,g 9,g 10,g 11,g 12,g 13])]|none=>[]
 nf:=1
 res:=fun x β=>match x with
  |some (b,g,n,l)=>.sl 1 (β 3) (β 0) (β 1) n (β 2)|none=>.v (.slice none 0 0)
 ws:=fun x β=>match x with
  |some (b,g,n,l)=>[.cel 1 (.prd (.sl false (β 3) (β 0) (β 1) (β 2) (.sl 209 1 n l)))]|none=>[]
theorem IE:JH.ok Tryz.prog 185:=by
 refine aJ ⟨false,false⟩ (fun _=>[]) (fun _=>.nil) _ Tryz.func185 Tryz.ntmps185 rfl rfl ?_;intros;rename_i x _ _ _ _ hP;rcases x with _|⟨b,g,n,l⟩
 ·cbv;repeat' first|exact O5|intro β;cbv|apply O4
  exact hP (fun _=>0) [(0,1)] _ _ rfl bM
 ·cbv;repeat' first|exact O5|intro β;cbv|apply O4
  exact hP β [(0,0),(1,0)] _ _ rfl bM
def m185 (args:List SV):SM Pay (JH.X×List Nat):=match args with
 |[x]=>match x with
  |.ptr h _ _=>.rdC h fun c=>match c with
   |.prd (.st b _ fs)=>match nth fs 6 with
    |.sl _ _ n l=>.ret (some (b,nth fs,n,l),[h])|_=>.fail
   |_=>.fail
  |_=>.ret (none,[])
 |_=>.fail
theorem x185:cI 185:=⟨_,Tryz.func185,rfl,by decide⟩
def r185:aN:=⟨185,1,true,JH.app m185,JH.app_ok IE m185,fun h=>by cases h⟩
def FW:cJ Pay where
 X:=Option (Nat×(Nat→FV)×Nat×Option (List UInt8))
 args:=fun x=>match x with
  |some (b,_)=>[.ptr 0 b 0]|none=>[.v (.pointer none)]
 pre:=fun x=>match x with
  |some (b,g,n,l)=>[.prd (.st b 212 [g 0,g 1,g 2,.bys 5 n l])]|none=>[]
 nf:=1
 res:=fun x β=>match x with
  |some (b,g,n,l)=>.sl 1 (β 3) (β 0) (β 1) n (β 2)|none=>.v (.slice none 0 0)
 ws:=fun x β=>match x with
  |some (b,g,n,l)=>[.cel 1 (.prd (.sl false (β 3) (β 0) (β 1) (β 2) (.bys 5 n l)))]|none=>[]
theorem FU:FW.ok Tryz.prog 204:=by
 refine aJ ⟨false,false⟩ (fun _=>[]) (fun _=>.nil) _ Tryz.func204 Tryz.ntmps204 rfl rfl ?_;intros;rename_i x _ _ _ _ hP;rcases x with _|⟨b,g,n,l⟩
 ·cbv;repeat' first|exact O5|intro β;cbv|apply O4
  exact hP (fun _=>0) [(0,1)] _ _ rfl bM
 ·cbv;repeat' first|exact O5|intro β;cbv|apply O4
  exact hP β [(0,0),(1,0)] _ _ rfl bM
def m204 (args:List SV):SM Pay (FW.X×List Nat):=match args with
 |[x]=>match x with
  |.ptr h _ _=>.rdC h fun c=>match c with
   |.prd (.st b _ fs)=>match nth fs 3 with
    |.bys _ n l=>.ret (some (b,nth fs,n,l),[h])|_=>.fail
   |_=>.fail
  |_=>.ret (none,[])
 |_=>.fail
theorem x204:cI 204:=⟨_,Tryz.func204,rfl,by decide⟩
def r204:aN:=⟨204,1,true,FW.app m204,FW.app_ok FU m204,fun h=>by cases h⟩
def FS:cJ Pay where
 X:=Option (Nat×(Nat→FV)×Nat×List FV)
 args:=fun x=>match x with
  |some (b,_)=>[.ptr 0 b 0]|none=>[.v (.pointer none)]
 pre:=fun x=>match x with
  |some (b,g,n,l)=>[.prd (.st b 269 [g 0,g 1,g 2,g 3,g 4,g 5,g 6,g 7,g 8,g 9,g 10,g 11,g 12,.sl 176 1 n l])]|none=>[]
 nf:=1
 res:=fun x β=>match x with
  |some (b,g,n,l)=>.sl 1 (β 3) (β 0) (β 1) n (β 2)|none=>.v (.slice none 0 0)
 ws:=fun x β=>match x with
  |some (b,g,n,l)=>[.cel 1 (.prd (.sl false (β 3) (β 0) (β 1) (β 2) (.sl 176 1 n l)))]|none=>[]
theorem KK:FS.ok Tryz.prog 260:=by
 refine aJ ⟨false,false⟩ (fun _=>[]) (fun _=>.nil) _ Tryz.func260 Tryz.ntmps260 rfl rfl ?_;intros;rename_i x _ _ _ _ hP;rcases x with _|⟨b,g,n,l⟩
 ·cbv;repeat' first|exact O5|intro β;cbv|apply O4
  exact hP (fun _=>0) [(0,1)] _ _ rfl bM
 ·cbv;repeat' first|exact O5|intro β;cbv|apply O4
  exact hP β [(0,0),(1,0)] _ _ rfl bM
def m260 (args:List SV):SM Pay (FS.X×List Nat):=match args with
 |[x]=>match x with
  |.ptr h _ _=>.rdC h fun c=>match c with
   |.prd (.st b _ fs)=>match nth fs 13 with
    |.sl _ _ n l=>.ret (some (b,nth fs,n,l),[h])|_=>.fail
   |_=>.fail
  |_=>.ret (none,[])
 |_=>.fail
theorem x260:cI 260:=⟨_,Tryz.func260,rfl,by decide⟩
def r260:aN:=⟨260,1,true,FS.app m260,FS.app_ok KK m260,fun h=>by cases h⟩
def FY:cJ Pay where
 X:=Bool×Nat×Nat×Nat×Nat×Nat×List Int
 args:=fun(sp,nn,b,off,cap,n,l)=>[.sl 0 nn b off n cap]
 pre:=fun(sp,nn,b,off,cap,n,l)=>[.prd (.sl sp nn b off cap (.ul 22 .u64 n l))]
 obl:=fun(sp,nn,b,off,cap,n,l)=>n≤4294967296
 nf:=1
 res:=fun(sp,nn,b,off,cap,n,l) β=>.sl 1 (β 0) (β 1) (β 2) n (β 3)
 ws:=fun(sp,nn,b,off,cap,n,l) β=>[.cel 1 (.prd (.sl true (β 0) (β 1) (β 2) (β 3) (.ul 22 .u64 n l)))]
theorem G6:FY.ok Tryz.prog 131:=by
 refine aJ ⟨false,false⟩ (fun _=>[]) (fun _=>.nil) _ Tryz.func131 Tryz.ntmps131 rfl rfl ?_;intros;rename_i ji hji _ _ _ _ _ _ _ _ _ _ _ _ _ _ na hna _ _ CM hC _ _ _ _ _ _ _ _ _ _ x _ _ ho _ hP;obtain⟨sp,nn,b,off,cap,n,l⟩:=x;change n≤4294967296 at ho;have h0:na 0 n=n:=by rw[hna];simp
 have h00:ji [] l=l:=by rw[hji];rfl
 have h1:CM .le (Int.ofNat (na 0 n)) 4294967296=true:=by rw[hC,h0];simp only[cmStd,decide_eq_true_eq,Int.ofNat_eq_natCast];omega
 cbv;repeat' first|exact O5|intro β;cbv|apply O4
 rw[h0,h00];exact hP β [(0,0),(1,0)] _ _ rfl bM
def m131 (args:List SV):SM Pay (FY.X×List Nat):=match args with
 |[.sl h nn b off n cap]=>.rdC h fun c=>match c with
  |.prd (.sl sp _ _ _ _ (.ul _ _ _ l))=>.ret ((sp,nn,b,off,cap,n,l),[h])|_=>.fail
 |_=>.fail
theorem x131:cI 131:=⟨_,Tryz.func131,rfl,by decide⟩
def r131:aN:=⟨131,1,true,FY.app m131,FY.app_ok G6 m131,fun h=>by cases h⟩
structure UL where
 sp:Bool
 nn:Nat
 b:Nat
 off:Nat
 cap:Nat
 n:Nat
 l:List Int
def UL.cel (u:UL):C:=.prd (.sl u.sp u.nn u.b u.off u.cap (.ul 22 .u64 u.n u.l))
def UL.sv (u:UL) (h:Nat):SV:=.sl h u.nn u.b u.off u.n u.cap
def csF (v l o x:UL) (a:Bool):List FV:=[.ul 22 .u64 v.n v.l,.ul 22 .u64 l.n l.l,.ul 22 .u64 o.n o.l,.ul 22 .u64 x.n x.l,.ob 4 (some a)]
def c90:cJ Pay where
 X:=UL×UL×UL×UL×Bool
 args:=fun(v,l,o,x,a)=>[.agg [v.sv 0,l.sv 1,o.sv 2,x.sv 3,.bl a]]
 pre:=fun(v,l,o,x,a)=>[v.cel,l.cel,o.cel,x.cel]
 obl:=fun(v,l,o,x,a)=>v.n≤4294967296∧l.n≤4294967296∧o.n≤4294967296∧x.n≤4294967296
 nf:=1
 res:=fun _ β=>.ptr 4 (β 0) 0
 ws:=fun(v,l,o,x,a) β=>[.cel 4 (.prd (.st (β 0) 229 (csF v l o x a)))]
theorem N2:c90.ok Tryz.prog 90:=by
 refine aJ ⟨false,false⟩ (fun _=>[r131]) (fun _=>(.cons x131 .nil)) _ Tryz.func90 Tryz.ntmps90 rfl rfl ?_;intros;rename_i x _ _ ho _ hP;obtain⟨⟨p1,n1,b1,o1,k1,v,vl⟩,⟨p2,n2,b2,o2,k2,l,ll⟩,⟨p3,n3,b3,o3,k3,o,ol⟩,⟨p4,n4,b4,o4,k4,x,xl⟩,a⟩:=x;obtain⟨h1,h2,h3,h4⟩:=ho;change v≤4294967296 at h1;change l≤4294967296 at h2;change o≤4294967296 at h3;change x≤4294967296 at h4;cbv;repeat' first|exact O5|intro β;cbv|apply O4
 exact hP (fun _=>β 16 0) [(0,0),(1,0),(2,0),(3,0),(14,1)] _ _ rfl bM
def LG (c:C) (nn b off cap n:Nat):Option UL:=match c with
 |.prd (.sl sp _ _ _ _ (.ul _ _ _ l))=>some ⟨sp,nn,b,off,cap,n,l⟩|_=>none
def m90 (args:List SV):SM Pay (c90.X×List Nat):=match args with
 |[.agg [.sl h1 a1 a2 a3 a4 a5,.sl h2 b1 b2 b3 b4 b5,.sl h3 d1 d2 d3 d4 d5,.sl h4 e1 e2 e3 e4 e5,.bl a]]=>.rdC h1 fun c1=>.rdC h2 fun c2=>.rdC h3 fun c3=>.rdC h4 fun c4=>
  match LG c1 a1 a2 a3 a5 a4,LG c2 b1 b2 b3 b5 b4,LG c3 d1 d2 d3 d5 d4,LG c4 e1 e2 e3 e5 e4 with
  |some v,some l,some o,some x=>.ret ((v,l,o,x,a),[h1,h2,h3,h4])|_,_,_,_=>.fail
 |_=>.fail
theorem x90:cI 90:=⟨_,Tryz.func90,rfl,by decide⟩
def r90:aN:=⟨90,1,true,c90.app m90,c90.app_ok N2 m90,fun h=>by cases h⟩
def c94:cJ Pay where
 X:=Nat×(Nat×List Int)×(Nat×List Int)×(Nat×List Int)×(Nat×List Int)×Option Bool
 args:=fun(b,_)=>[.ptr 0 b 0]
 pre:=fun(b,v,l,o,x,a)=>[.prd (.st b 229 [.ul 22 .u64 v.1 v.2,.ul 22 .u64 l.1 l.2,.ul 22 .u64 o.1 o.2,.ul 22 .u64 x.1 x.2,.ob 4 a])]
 obl:=fun(b,v,l,o,x,a)=>v.1≤4294967296∧l.1≤4294967296∧o.1≤4294967296∧x.1≤4294967296
 nf:=4
 res:=fun(b,v,l,o,x,a) β=>.agg [.sl 1 (β 0) (β 1) (β 2) v.1 (β 3),.sl 2 (β 4) (β 5) (β 6) l.1 (β 7),.sl 3 (β 8) (β 9) (β 10) o.1 (β 11),.sl 4 (β 12) (β 13) (β 14) x.1 (β 15),.bl (optB a)]
 ws:=fun(b,v,l,o,x,a) β=>[.cel 1 (.prd (.sl true (β 0) (β 1) (β 2) (β 3) (.ul 22 .u64 v.1 v.2))),.cel 2 (.prd (.sl true (β 4) (β 5) (β 6) (β 7) (.ul 22 .u64 l.1 l.2))),
  .cel 3 (.prd (.sl true (β 8) (β 9) (β 10) (β 11) (.ul 22 .u64 o.1 o.2))),.cel 4 (.prd (.sl true (β 12) (β 13) (β 14) (β 15) (.ul 22 .u64 x.1 x.2)))]
theorem N4:c94.ok Tryz.prog 94:=by
 refine aJ ⟨false,false⟩ (fun _=>[r131,r134,r135,r136,r137,r138]) (fun _=>(.cons x131 (.cons x134 (.cons x135 (.cons x136 (.cons x137 (.cons x138 .nil))))))) _ Tryz.func94 Tryz.ntmps94 rfl rfl ?_;intros;rename_i hU hI hL _ x _ _ ho hsat hP;obtain⟨b,⟨v,vl⟩,⟨l,ll⟩,⟨o,ol⟩,⟨x,xl⟩,a⟩:=x;obtain⟨h1,h2,h3,h4⟩:=ho;change v≤4294967296 at h1;change l≤4294967296 at h2;change o≤4294967296 at h3;change x≤4294967296 at h4;cbv;repeat' first|exact O5|intro β;cbv|apply O4
 rename_i p7 p6 v5 p4 v3 p2 v1 p0;exact hP (fun|0=>v5 0|1=>v5 1|2=>v5 2|3=>v5 3|4=>v3 0|5=>v3 1|6=>v3 2|7=>v3 3|8=>v1 0|9=>v1 1|10=>v1 2|11=>v1 3|12=>β 0|13=>β 1|14=>β 2|_=>β 3)
  [(0,0),(3,0),(5,0),(7,0),(9,0)] _ _ rfl bM
def m94 (args:List SV):SM Pay (c94.X×List Nat):=match args with
 |[.ptr h _ _]=>.rdC h fun c=>match c with
  |.prd (.st b _ [.ul _ _ v vl,.ul _ _ l ll,.ul _ _ o ol,.ul _ _ x xl,.ob _ a])=>.ret ((b,(v,vl),(l,ll),(o,ol),(x,xl),a),[h])|_=>.fail
 |_=>.fail
theorem x94:cI 94:=⟨_,Tryz.func94,rfl,by decide⟩
def r94:aN:=⟨94,4,true,c94.app m94,c94.app_ok N4 m94,fun h=>by cases h⟩
def sR (s:Nat→SV):Nat→Nat→List SV
 |0,_=>[]|n+1,k=>s k::sR s n (k+1)
def upd (s:Nat→SV) (k:Nat) (v:SV) (j:Nat):SV:=match Nat.beq j k with
 |true=>v|false=>s j
def GK:cJ Pay where
 X:=Bool×Nat×(Nat→SV)×Bool×Nat×(Nat→SV)×Int×Int×Int
 args:=fun(w,b,s,w1,b1,s1,t,v,c)=>[.ptr 0 b 0]
 pre:=fun(w,b,s,w1,b1,s1,t,v,c)=>[.raw w b 264 (sR (upd (upd (upd s 1 (.i .u64 t)) 2 (.i .u64 v)) 4 (.ptr 1 b1 0)) 40 0),.raw w1 b1 313 (sR (upd s1 6 (.i .u64 c)) 12 0)]
 nf:=1
 res:=fun _ β=>.ptr 2 (β 0) 0
 ws:=fun(w,b,s,w1,b1,s1,t,v,c) β=>[.cel 2 (.prd (.st (β 0) 226 (oN t v c)))]
theorem IB:GK.ok Tryz.prog 171:=by
 refine aJ ⟨false,false⟩ (fun _=>[]) (fun _=>.nil) _ Tryz.func171 Tryz.ntmps171 rfl rfl ?_;intros;rename_i x _ _ _ _ hP;obtain⟨w,b,s,w1,b1,s1,t,v,c⟩:=x;cbv;repeat' first|exact O5|intro β;cbv|apply O4
 exact hP (fun _=>β 19 0) [(0,0),(1,0),(6,1)] _ _ rfl bM
def m171 (args:List SV):SM Pay (GK.X×List Nat):=match args with
 |[.ptr h _ _]=>.rdC h fun c=>match c with
  |.raw w b _ cs=>match bE cs 4,bG (bE cs 1),bG (bE cs 2) with
   |.ptr h1 _ _,some (_,_,t),some (_,_,v)=>.rdC h1 fun c=>match c with
    |.raw w1 b1 _ cs1=>match bG (bE cs1 6) with
     |some (_,_,c)=>.ret ((w,b,bE cs,w1,b1,bE cs1,t,v,c),[h,h1])|none=>.fail
    |_=>.fail
   |_,_,_=>.fail
  |_=>.fail
 |_=>.fail
theorem rO:cI 171:=⟨_,Tryz.func171,rfl,by decide⟩
def rC:aN:=⟨171,1,true,GK.app m171,GK.app_ok IB m171,fun h=>by cases h⟩
def KM:cJ Pay where
 X:=Bool×Nat×(Nat→SV)×Int×Int
 args:=fun(w,b,s,r,l)=>[.ptr 0 b 0]
 pre:=fun(w,b,s,r,l)=>[.raw w b 264 (sR (upd (upd s 16 (.i .u64 r)) 20 (.i .u64 l)) 40 0)]
 res:=fun(w,b,s,r,l) _=>.agg [.i .u64 l,.i .u64 r]
theorem JL:KM.ok Tryz.prog 170:=by
 refine aJ ⟨false,false⟩ (fun _=>[]) (fun _=>.nil) _ Tryz.func170 Tryz.ntmps170 rfl rfl ?_;intros;rename_i x _ _ _ _ hP;obtain⟨w,b,s,r,l⟩:=x;cbv;repeat' first|exact O5|intro β;cbv|apply O4
 exact hP (fun _=>0) [(0,0)] _ _ rfl bM
def m170 (args:List SV):SM Pay (KM.X×List Nat):=match args with
 |[.ptr h _ _]=>.rdC h fun c=>match c with
  |.raw w b _ cs=>match bG (bE cs 16),bG (bE cs 20) with
   |some (_,_,r),some (_,_,l)=>.ret ((w,b,bE cs,r,l),[h])|_,_=>.fail
  |_=>.fail
 |_=>.fail
theorem rB:cI 170:=⟨_,Tryz.func170,rfl,by decide⟩
def rE:aN:=⟨170,0,false,KM.app m170,KM.app_ok JL m170,fun _ args base β β'=>rfl⟩
theorem mX (T:TypeId):eF [.nil] (.prd (.sl false 0 0 0 0 (.bys T 0 none))):=⟨fun w F h=>by
 have h:sat w F:=by simpa [big,Cel.den,aH] using h
 show sat w (star (star (pure' (((0:Nat)=0∧(0:Nat)=0)∧(0:Nat)=0)) emp) F)
 rw[aO];exact aB.2 ⟨⟨⟨rfl,rfl⟩,rfl⟩,h⟩⟩
theorem vE (T:TypeId) (k:IntKind) (sp:Bool):eF [.nil] (.prd (.sl sp 0 0 0 0 (.ul T k 0 []))):=⟨fun w F h=>by
 have h:sat w F:=by simpa [big,Cel.den,aH] using h
 show sat w (star (star (FV.row 0 0 0 0 (.ul T k 0 [])) (eM sp emp)) F);have e:eM sp emp=emp:=by cases sp<;>rfl
 rw[e,aO];simp only[FV.row,slR,aA,List.map_nil]
 exact aB.2 ⟨rfl,aB.2 ⟨by simp,h⟩⟩⟩
theorem gE (T:TypeId) (sz:Nat) (sp:Bool):eF [.nil] (.prd (.sl sp 0 0 0 0 (.sl T sz 0 []))):=⟨fun w F h=>by
 have h:sat w F:=by simpa [big,Cel.den,aH] using h
 have e:eM sp emp=emp:=by cases sp<;>rfl
 have e2:eM sp (bU 0 0 0 (0*sz) (0*sz))=emp:=by cases sp<;>rfl
 show sat w (star (star (FV.row 0 0 0 0 (.sl T sz 0 [])) (eM sp (bU 0 0 0 (0*sz) (0*sz)))) F);rw[e2,aO,FV.row,aL];refine⟨[],?_⟩;simp only[slR,aA,FV.dens,aH]
 exact aB.2 ⟨by simp,aB.2 ⟨by simp,h⟩⟩⟩
theorem zQ (a:ByteArray) (i:Nat) (r:List UInt8):ByteArray.toList.loop a i r=r.reverse++a.data.toList.drop i:=by
 induction h:a.size-i generalizing i r with
 |zero=>unfold ByteArray.toList.loop;rw[if_neg (by omega)];have:a.data.toList.length=a.size:=rfl;rw[List.drop_eq_nil_of_le (by omega),List.append_nil]|succ n ih=>
  unfold ByteArray.toList.loop;have hl:i<a.size:=by omega
  rw[if_pos hl,ih (i+1) _ (by omega)];have hl2:i<a.data.toList.length:=hl;rw[List.drop_eq_getElem_cons hl2,List.reverse_cons,List.append_assoc];congr 1;have:a.get! i=a.data.toList[i]:=by show a.data[i]! =_;rw[getElem!_pos a.data i (by simpa using hl2)];simp
  simp[this]
theorem uP (a:ByteArray):a.toList=a.data.toList:=by unfold ByteArray.toList;rw[zQ];simp
theorem DG (s:ByteArray):seStd s ⟨⟨[]⟩⟩=true↔s.size=0:=by
 simp only[seStd,uP];constructor
 ·intro h;have:s.data.toList=[]:=by simpa using h
  show s.data.size=0;rw[←Array.length_toList,this];rfl
 ·intro h;have:s.data.toList=[]:=List.eq_nil_of_length_eq_zero (by rw[Array.length_toList];exact h);simp[this]
def HM:cJ Pay where
 X:=ByteArray×Nat×Option (List UInt8)
 args:=fun(s,n,o)=>[.v (.string s)]
 pre:=fun _=>[]
 obl:=fun(s,n,o)=>jX s n o
 nf:=1
 res:=fun(s,n,o) β=>.sl 0 (β 3) (β 0) (β 1) n (β 2)
 ws:=fun(s,n,o) β=>[.cel 0 (.prd (.sl false (β 3) (β 0) (β 1) (β 2) (.bys 5 n o)))]
theorem HN:HM.ok Tryz.prog 111:=by
 refine aJ ⟨false,false⟩ (fun _=>[]) (fun _=>.nil) _ Tryz.func111 Tryz.ntmps111 rfl rfl ?_;intros;rename_i SE hE _ _ TX hTX _ _ _ _ _ _ _ _ _ _ _ _ _ _ _ _ x _ _ ho _ hP;obtain⟨s,n,o⟩:=x;obtain⟨h1,h2⟩:=ho;cases hb:SE s ⟨⟨[]⟩⟩ with
 |true=>
  have hn:s.size=0:=by rw[hE] at hb;exact(DG s).1 hb
  have e1:n=0:=by rw[←h1];exact hn
  have e2:o=none:=by rw[←h2];simp only[tfStd,hn]
  subst e1;subst e2;cbv;repeat' first|exact O5|intro β;cbv|apply O4
  rw[hb];cbv;repeat' first|exact O5|intro β;cbv|apply O4
  exact hP (fun _=>0) [(99,101)] _ _ rfl ⟨trivial,rfl,rfl,⟨mX 5,trivial⟩⟩
 |false=>
  have hn:s.size≠0:=by intro hn;rw[hE] at hb;have:=(DG s).2 hn;rw[hb] at this;cases this
  have e2:o=some (TX.l s):=by
   rw[←h2,hTX];simp only[tfStd];cases h:Nat.beq s.size 0
   ·rfl
   ·exact absurd (Nat.eq_of_beq_eq_true h) hn
  rw[←hTX] at h1;subst h1;subst e2;cbv;repeat' first|exact O5|intro β;cbv|apply O4
  rw[hb];cbv;repeat' first|exact O5|intro β;cbv|apply O4
  exact hP (fun|0=>β 0|1=>0|2=>β 1|_=>1) [(0,0)] _ _ rfl bM
def m111 (TX:TF) (args:List SV):SM Pay (HM.X×List Nat):=match args with
 |[.v (.string s)]=>.ret ((s,TX.sz s,TX.o s),[])|_=>.fail
theorem M4:cI 111:=⟨_,Tryz.func111,rfl,by decide⟩
def NB (TX:TF):aN:=⟨111,1,true,HM.app (m111 TX),HM.app_ok HN (m111 TX),fun h=>by cases h⟩
theorem kC {L:List C} {p:Nat} {c:C} (h:∃(w:World) (F:HProp),sat w (star (big L) F)) (hc:L.getD p .nil=c):∃(w:World) (F:HProp),sat w (star c.den F):=by obtain⟨w,F,h⟩:=h;exact⟨w,star (big (L.set p .nil)) F,by rw[fD hc,aA] at h;exact h⟩
theorem pS {L:List C} {sp:Bool} {nn b off cap n:Nat} {l:List Int} {T:TypeId} {k:IntKind} (p:Nat) (h:∃(w:World) (F:HProp),sat w (star (big L) F)) (hc:L.getD p .nil=.prd (.sl sp nn b off cap (.ul T k n l))):l.length=n∧(nn=0→n=0∧l=[]∧cap=0):=by
 obtain⟨w,F,h⟩:=kC h hc;have h:sat w (star (star (FV.row nn b off cap (.ul T k n l)) (eM sp (bU nn b off (n*1) (cap*1)))) F):=h;simp only[FV.row,aA] at h;obtain⟨h1,h⟩:=aB.1 h;refine⟨h1,?_⟩;rintro rfl;simp only[slR] at h;obtain⟨⟨h2,h3⟩,_⟩:=aB.1 h;have:l=[]:=by simpa using h2
 subst this;exact⟨h1.symm,rfl,by simpa using h3⟩
theorem ED {L:List C} {sp:Bool} {nn b off cap n:Nat} {T:TypeId} (p:Nat) (h:∃(w:World) (F:HProp),sat w (star (big L) F)) (hc:L.getD p .nil=.prd (.sl sp nn b off cap (.bys T n none))):nn=0∧n=0∧cap=0:=by obtain⟨w,F,h⟩:=kC h hc;have h:sat w (star (star (FV.row nn b off cap (.bys T n none)) (eM sp (bU nn b off (n*1) (cap*1)))) F):=h;simp only[FV.row,aA] at h;obtain⟨⟨⟨h1,h2⟩,h3⟩,_⟩:=aB.1 h;exact⟨h1,h3,h2⟩
theorem DR {L:List C} {sp:Bool} {nn b off cap n:Nat} {T:TypeId} {l:List UInt8} (p:Nat) (h:∃(w:World) (F:HProp),sat w (star (big L) F)) (hc:L.getD p .nil=.prd (.sl sp nn b off cap (.bys T n (some l)))):nn≠0∧l.length=n:=by obtain⟨w,F,h⟩:=kC h hc;have h:sat w (star (star (FV.row nn b off cap (.bys T n (some l))) (eM sp (bU nn b off (n*1) (cap*1)))) F):=h;simp only[FV.row,aA] at h;exact(aB.1 h).1
def GV:cJ Pay where
 X:=Bool×Nat×Nat×Nat×Nat×Nat×List Int
 args:=fun(sp,nn,b,off,cap,n,l)=>[.sl 0 nn b off n cap]
 pre:=fun(sp,nn,b,off,cap,n,l)=>[.prd (.sl sp nn b off cap (.ul 22 .u64 n l))]
 obl:=fun(sp,nn,b,off,cap,n,l)=>n≤4294967296
 nf:=1
 res:=fun(sp,nn,b,off,cap,n,l) β=>.sl 1 (β 0) (β 1) (β 2) n (β 3)
 ws:=fun(sp,nn,b,off,cap,n,l) β=>[.cel 1 (.prd (.sl true (β 0) (β 1) (β 2) (β 3) (.ul 22 .u64 n l)))]
theorem FA:GV.ok Tryz.prog 214:=by
 refine aJ ⟨false,false⟩ (fun _=>[]) (fun _=>.nil) _ Tryz.func214 Tryz.ntmps214 rfl rfl ?_;intros;rename_i CM hC _ _ _ _ _ _ _ _ _ _ x _ _ ho hsat hP;obtain⟨sp,nn,b,off,cap,n,l⟩:=x;change n≤4294967296 at ho;have h1:CM .le (Int.ofNat n) 4294967296=true:=by rw[hC];simp only[cmStd,decide_eq_true_eq,Int.ofNat_eq_natCast];omega
 have hl:=pS 0 hsat rfl;cases nn with
 |zero=>
  obtain⟨rfl,rfl,rfl⟩:=hl.2 rfl;cbv;repeat' first|exact O5|intro β;cbv|apply O4
  exact hP (fun _=>0) [(0,0),(99,101)] _ _ rfl ⟨trivial,rfl,rfl,⟨rfl,vE 22 .u64 true,trivial⟩⟩
 |succ nn=>
  cbv;repeat' first|exact O5|intro β;cbv|apply O4|exact h1
  exact hP (fun|0=>1|1=>β|2=>0|_=>n) [(0,0),(1,3)] _ _ rfl ⟨trivial,rfl,rfl,⟨rfl,tA 22 .u64 true 1 β 0 n n l,trivial⟩⟩
def HG (args:List SV):SM Pay (GV.X×List Nat):=match args with
 |[.sl h nn b off n cap]=>.rdC h fun c=>match c with
  |.prd (.sl sp _ _ _ _ (.ul _ _ _ l))=>.ret ((sp,nn,b,off,cap,n,l),[h])|_=>.fail
 |_=>.fail
theorem x214:cI 214:=⟨_,Tryz.func214,rfl,by decide⟩
def r214:aN:=⟨214,1,true,GV.app HG,GV.app_ok FA HG,fun h=>by cases h⟩
def IZ:cJ Pay where
 X:=Bool×Nat×Nat×Nat×Nat×Nat×Option (List UInt8)
 args:=fun(sp,nn,b,off,cap,n,l)=>[.sl 0 nn b off n cap]
 pre:=fun(sp,nn,b,off,cap,n,l)=>[.prd (.sl sp nn b off cap (.bys 5 n l))]
 obl:=fun(sp,nn,b,off,cap,n,l)=>n≤4294967296
 nf:=1
 res:=fun(sp,nn,b,off,cap,n,l) β=>.sl 1 (β 0) (β 1) (β 2) n (β 3)
 ws:=fun(sp,nn,b,off,cap,n,l) β=>[.cel 1 (.prd (.sl false (β 0) (β 1) (β 2) (β 3) (.bys 5 n l)))]
theorem HE:IZ.ok Tryz.prog 167:=by
 refine aJ ⟨false,false⟩ (fun _=>[]) (fun _=>.nil) _ Tryz.func167 Tryz.ntmps167 rfl rfl ?_;intros;rename_i hbi _ _ _ _ _ _ _ _ _ _ _ _ _ _ _ _ _ _ _ _ _ _ _ _ _ _ _ _ _ _ CM hC _ _ _ _ _ _ _ _ _ _ x _ _ ho hsat hP;obtain⟨sp,nn,b,off,cap,n,l⟩:=x;change n≤4294967296 at ho;have h1:CM .le (Int.ofNat n) 4294967296=true:=by rw[hC];simp only[cmStd,decide_eq_true_eq,Int.ofNat_eq_natCast];omega
 cases l with
 |none=>
  obtain⟨rfl,rfl,rfl⟩:=ED 0 hsat rfl;cbv;repeat' first|exact O5|intro β;cbv|apply O4
  exact hP (fun _=>0) [(0,0),(99,101)] _ _ rfl ⟨trivial,rfl,rfl,⟨rfl,mX 5,trivial⟩⟩
 |some l=>
  have hs:=DR 0 hsat rfl;cases nn with
  |zero=>exact absurd rfl hs.1|succ nn=>
   cbv;repeat' first|exact O5|intro β;cbv|apply O4|exact h1
   rw[hbi];exact hP (fun|0=>1|1=>β|2=>0|_=>n) [(0,0),(1,3)] _ _ rfl ⟨trivial,rfl,rfl,⟨rfl,FG 5 0 β 0 n n l,trivial⟩⟩
def m167 (args:List SV):SM Pay (IZ.X×List Nat):=match args with
 |[.sl h nn b off n cap]=>.rdC h fun c=>match c with
  |.prd (.sl sp _ _ _ _ (.bys _ _ l))=>.ret ((sp,nn,b,off,cap,n,l),[h])|_=>.fail
 |_=>.fail
theorem x167:cI 167:=⟨_,Tryz.func167,rfl,by decide⟩
def r167:aN:=⟨167,1,true,IZ.app m167,IZ.app_ok HE m167,fun h=>by cases h⟩
def JE:cJ Pay where
 X:=Option (Bool×Nat×Bool)
 args:=fun x=>match x with
  |none=>[.v (.pointer none)]|some (w,b,v)=>[.ptr 0 b 0]
 pre:=fun x=>match x with
  |none=>[]|some (w,b,v)=>[.raw w b 4 [.bl v]]
 nf:=1
 res:=fun x β=>match x with
  |none=>.v (.pointer none)|some (w,b,v)=>.ptr 1 (β 0) 0
 ws:=fun x β=>match x with
  |none=>[]|some (w,b,v)=>[.cel 1 (.raw true (β 0) 4 [.bl v])]
theorem IM:JE.ok Tryz.prog 215:=by
 refine aJ ⟨false,false⟩ (fun _=>[]) (fun _=>.nil) _ Tryz.func215 Tryz.ntmps215 rfl rfl ?_;intros;rename_i x _ _ _ _ hP;rcases x with _|⟨w,b,v⟩
 ·cbv;repeat' first|exact O5|intro β;cbv|apply O4
  exact hP (fun _=>0) [(0,1)] _ _ rfl bM
 ·cbv;repeat' first|exact O5|intro β;cbv|apply O4
  exact hP β [(0,0),(1,0)] _ _ rfl bM
def m215 (args:List SV):SM Pay (JE.X×List Nat):=match args with
 |[.ptr h b _]=>.rdC h fun c=>match c with
  |.raw w _ _ [.bl v]=>.ret (some (w,b,v),[h])|_=>.fail
 |[.v (.pointer none)]=>.ret (none,[])|_=>.fail
theorem x215:cI 215:=⟨_,Tryz.func215,rfl,by decide⟩
def r215:aN:=⟨215,1,true,JE.app m215,JE.app_ok IM m215,fun h=>by cases h⟩
def IC:cJ Pay where
 X:=Option (Bool×Nat×Int)
 args:=fun x=>match x with
  |none=>[.v (.pointer none)]|some (w,b,v)=>[.ptr 0 b 0]
 pre:=fun x=>match x with
  |none=>[]|some (w,b,v)=>[.raw w b 22 [.i .u64 v]]
 nf:=1
 res:=fun x β=>match x with
  |none=>.v (.pointer none)|some (w,b,v)=>.ptr 1 (β 0) 0
 ws:=fun x β=>match x with
  |none=>[]|some (w,b,v)=>[.cel 1 (.raw true (β 0) 22 [.i .u64 v])]
theorem H2:IC.ok Tryz.prog 218:=by
 refine aJ ⟨false,false⟩ (fun _=>[]) (fun _=>.nil) _ Tryz.func218 Tryz.ntmps218 rfl rfl ?_;intros;rename_i x _ _ _ _ hP;rcases x with _|⟨w,b,v⟩
 ·cbv;repeat' first|exact O5|intro β;cbv|apply O4
  exact hP (fun _=>0) [(0,1)] _ _ rfl bM
 ·cbv;repeat' first|exact O5|intro β;cbv|apply O4
  exact hP β [(0,0),(1,0)] _ _ rfl bM
def m218 (args:List SV):SM Pay (IC.X×List Nat):=match args with
 |[.ptr h b _]=>.rdC h fun c=>match c with
  |.raw w _ _ [.i _ v]=>.ret (some (w,b,v),[h])|_=>.fail
 |[.v (.pointer none)]=>.ret (none,[])|_=>.fail
theorem x218:cI 218:=⟨_,Tryz.func218,rfl,by decide⟩
def r218:aN:=⟨218,1,true,IC.app m218,IC.app_ok H2 m218,fun h=>by cases h⟩
def sP (v l o x:Nat×List Int) (a:Option Bool):List FV:=[.ul 22 .u64 v.1 v.2,.ul 22 .u64 l.1 l.2,.ul 22 .u64 o.1 o.2,.ul 22 .u64 x.1 x.2,.ob 4 a]
def HK:cJ Pay where
 X:=Nat×(Nat×List Int)×(Nat×List Int)×(Nat×List Int)×(Nat×List Int)×Option Bool
 args:=fun(b,_)=>[.ptr 0 b 0]
 pre:=fun(b,v,l,o,x,a)=>[.prd (.st b 229 (sP v l o x a))]
 obl:=fun(b,v,l,o,x,a)=>v.1≤4294967296∧l.1≤4294967296∧o.1≤4294967296∧x.1≤4294967296
 nf:=1
 res:=fun(b,v,l,o,x,a) β=>.ptr 1 (β 0) 0
 ws:=fun(b,v,l,o,x,a) β=>[.cel 1 (.prd (.st (β 0) 229 (sP v l o x a)))]
theorem FD:HK.ok Tryz.prog 162:=by
 refine aJ ⟨false,false⟩ (fun _=>[r214,r215]) (fun _=>(.cons x214 (.cons x215 .nil))) _ Tryz.func162 Tryz.ntmps162 rfl rfl ?_;intros;rename_i x _ _ ho _ hP;obtain⟨b,⟨v,vl⟩,⟨l,ll⟩,⟨o,ol⟩,⟨x,xl⟩,a⟩:=x;obtain⟨h1,h2,h3,h4⟩:=ho;change v≤4294967296 at h1;change l≤4294967296 at h2;change o≤4294967296 at h3;change x≤4294967296 at h4;cases a with
 |none=>
  cbv;repeat' first|exact O5|intro β;cbv|apply O4
  exact hP (fun _=>β 26 0) [(0,0),(11,1)] _ _ rfl bM
 |some a=>
  cbv;repeat' first|exact O5|intro β;cbv|apply O4
  exact hP (fun _=>β 26 0) [(0,0),(11,1)] _ _ rfl bM
def m162 (args:List SV):SM Pay (HK.X×List Nat):=match args with
 |[.ptr h _ _]=>.rdC h fun c=>match c with
  |.prd (.st b _ [.ul _ _ v vl,.ul _ _ l ll,.ul _ _ o ol,.ul _ _ x xl,.ob _ a])=>.ret ((b,(v,vl),(l,ll),(o,ol),(x,xl),a),[h])|_=>.fail
 |_=>.fail
theorem x162:cI 162:=⟨_,Tryz.func162,rfl,by decide⟩
def r162:aN:=⟨162,1,true,HK.app m162,HK.app_ok FD m162,fun h=>by cases h⟩
structure CSX where
 v:Nat×List Int
 l:Nat×List Int
 o:Nat×List Int
 x:Nat×List Int
 a:Option Bool
def CSX.f (c:CSX):FV:=.st 229 (sP c.v c.l c.o c.x c.a)
def CSX.ok (c:CSX):Prop:=c.v.1≤4294967296∧c.l.1≤4294967296∧c.o.1≤4294967296∧c.x.1≤4294967296
def L3 (c:CSX) (i t:Int):List FV:=[c.f,.oi 22 .u64 (some i),.oi 22 .u64 (some t)]
def JS:cJ Pay where
 X:=Nat×CSX×Int×Int
 args:=fun(b,_)=>[.ptr 0 b 0]
 pre:=fun(b,c,i,t)=>[.prd (.st b 221 (L3 c i t))]
 obl:=fun(b,c,i,t)=>c.ok
 nf:=1
 res:=fun(b,c,i,t) β=>.ptr 1 (β 0) 0
 ws:=fun(b,c,i,t) β=>[.cel 1 (.prd (.st (β 0) 221 (L3 c i t)))]
theorem JB:JS.ok Tryz.prog 168:=by
 refine aJ ⟨false,false⟩ (fun _=>[r162,r218]) (fun _=>(.cons x162 (.cons x218 .nil))) _ Tryz.func168 Tryz.ntmps168 rfl rfl ?_;intros;rename_i x _ _ ho _ hP;obtain⟨b,⟨⟨v,vl⟩,⟨l,ll⟩,⟨o,ol⟩,⟨x,xl⟩,a⟩,i,t⟩:=x;obtain⟨h1,h2,h3,h4⟩:=ho;change v≤4294967296 at h1;change l≤4294967296 at h2;change o≤4294967296 at h3;change x≤4294967296 at h4;cbv;repeat' first|exact O5|intro β;cbv|apply O4
 exact hP (fun _=>β 16 0) [(0,0),(7,1)] _ _ rfl bM
def mCS (f:FV):Option CSX:=match f with
 |.st _ [.ul _ _ v vl,.ul _ _ l ll,.ul _ _ o ol,.ul _ _ x xl,.ob _ a]=>some ⟨(v,vl),(l,ll),(o,ol),(x,xl),a⟩|_=>none
def m168 (args:List SV):SM Pay (JS.X×List Nat):=match args with
 |[.ptr h _ _]=>.rdC h fun c=>match c with
  |.prd (.st b _ [f,.oi _ _ (some i),.oi _ _ (some t)])=>match mCS f with
   |some c=>.ret ((b,c,i,t),[h])|none=>.fail
  |_=>.fail
 |_=>.fail
theorem x168:cI 168:=⟨_,Tryz.func168,rfl,by decide⟩
def r168:aN:=⟨168,1,true,JS.app m168,JS.app_ok JB m168,fun h=>by cases h⟩
structure SNX where
 n:Nat
 d:Option (List UInt8)
 c:CSX
 i:Int
 t:Int
def SNX.fs (s:SNX):List FV:=[.bys 5 s.n s.d,.st 221 (L3 s.c s.i s.t)]
def KJ:cJ Pay where
 X:=Nat×SNX
 args:=fun(b,_)=>[.ptr 0 b 0]
 pre:=fun(b,s)=>[.prd (.st b 223 s.fs)]
 obl:=fun(b,s)=>s.n≤4294967296∧s.c.ok
 nf:=1
 res:=fun(b,s) β=>.ptr 1 (β 0) 0
 ws:=fun(b,s) β=>[.cel 1 (.prd (.st (β 0) 223 s.fs))]
theorem IQ:KJ.ok Tryz.prog 127:=by
 refine aJ ⟨false,false⟩ (fun _=>[r167,r168]) (fun _=>(.cons x167 (.cons x168 .nil))) _ Tryz.func127 Tryz.ntmps127 rfl rfl ?_;intros;rename_i x _ _ ho _ hP;obtain⟨b,n,d,⟨⟨v,vl⟩,⟨l,ll⟩,⟨o,ol⟩,⟨x,xl⟩,a⟩,i,t⟩:=x;obtain⟨h0,h1,h2,h3,h4⟩:=ho;change n≤4294967296 at h0;change v≤4294967296 at h1;change l≤4294967296 at h2;change o≤4294967296 at h3;change x≤4294967296 at h4;cbv;repeat' first|exact O5|intro β;cbv|apply O4
 exact hP (fun _=>β 11 0) [(0,0),(5,1)] _ _ rfl bM
def m127 (args:List SV):SM Pay (KJ.X×List Nat):=match args with
 |[.ptr h _ _]=>.rdC h fun c=>match c with
  |.prd (.st b _ [.bys _ n d,.st _ [f,.oi _ _ (some i),.oi _ _ (some t)]])=>match mCS f with
   |some c=>.ret ((b,⟨n,d,c,i,t⟩),[h])|none=>.fail
  |_=>.fail
 |_=>.fail
theorem x127:cI 127:=⟨_,Tryz.func127,rfl,by decide⟩
def r127:aN:=⟨127,1,true,KJ.app m127,KJ.app_ok IQ m127,fun h=>by cases h⟩
def c85:cJ Pay where
 X:=ByteArray×Nat×Option (List UInt8)×Int×Int×UL×UL×UL×UL×Bool
 args:=fun(s,n,d,i,t,v,l,o,x,a)=>[.agg [.v (.string s),.i .u64 i,.i .u64 t,v.sv 0,l.sv 1,o.sv 2,x.sv 3,.bl a]]
 pre:=fun(s,n,d,i,t,v,l,o,x,a)=>[v.cel,l.cel,o.cel,x.cel]
 obl:=fun(s,n,d,i,t,v,l,o,x,a)=>jX s n d∧v.n≤4294967296∧l.n≤4294967296∧o.n≤4294967296∧x.n≤4294967296
 nf:=1
 res:=fun _ β=>.ptr 4 (β 0) 0
 ws:=fun(s,n,d,i,t,v,l,o,x,a) β=>[.cel 4 (.prd (.st (β 0) 223 (SNX.fs ⟨n,d,⟨(v.n,v.l),(l.n,l.l),(o.n,o.l),(x.n,x.l),some a⟩,i,t⟩)))]
theorem NV:c85.ok Tryz.prog 85:=by
 refine aJ ⟨false,false⟩ (fun TX=>[NB TX,r90]) (fun _=>(.cons M4 (.cons x90 .nil))) _ Tryz.func85 Tryz.ntmps85 rfl rfl ?_;intros;rename_i hTX _ _ _ _ _ _ _ _ _ _ _ _ _ _ _ _ x _ _ ho _ hP;obtain⟨s,n,d,i,t,⟨p1,n1,b1,o1,k1,v,vl⟩,⟨p2,n2,b2,o2,k2,l,ll⟩,⟨p3,n3,b3,o3,k3,o,ol⟩,⟨p4,n4,b4,o4,k4,x,xl⟩,a⟩:=x;obtain⟨⟨h5,h6⟩,h1,h2,h3,h4⟩:=ho;change v≤4294967296 at h1;change l≤4294967296 at h2;change o≤4294967296 at h3;change x≤4294967296 at h4;rw[←hTX] at h5 h6;subst h5;subst h6;have hT:=jX.self hTX s;cbv;repeat' first|exact O5|intro β;cbv|apply O4
 exact hP (fun _=>β 15 0) [(0,0),(1,0),(2,0),(3,0),(10,1)] _ _ rfl bM
def m85 (TX:TF) (args:List SV):SM Pay (c85.X×List Nat):=match args with
 |[.agg [.v (.string s),i,t,.sl h1 a1 a2 a3 a4 a5,.sl h2 b1 b2 b3 b4 b5,.sl h3 d1 d2 d3 d4 d5,.sl h4 e1 e2 e3 e4 e5,.bl a]]=>.rdC h1 fun c1=>.rdC h2 fun c2=>.rdC h3 fun c3=>.rdC h4 fun c4=>
  match bG i,bG t,LG c1 a1 a2 a3 a5 a4,LG c2 b1 b2 b3 b5 b4,LG c3 d1 d2 d3 d5 d4,LG c4 e1 e2 e3 e5 e4 with
  |some (_,_,i),some (_,_,t),some v,some l,some o,some x=>.ret ((s,TX.sz s,TX.o s,i,t,v,l,o,x,a),[h1,h2,h3,h4])|_,_,_,_,_,_=>.fail
 |_=>.fail
theorem x85:cI 85:=⟨_,Tryz.func85,rfl,by decide⟩
def r85 (TX:TF):aN:=⟨85,1,true,c85.app (m85 TX),c85.app_ok NV (m85 TX),fun h=>by cases h⟩
def tmG (j:Nat→SV) (u:List (Nat×SV)):Nat→Nat→List SV
 |0,_=>[]
 |n+1,k=>(match findU u k with
  |some v=>v
  |none=>j k)::tmG j u n (k+1)
where findU:List (Nat×SV)→Nat→Option SV
 |[],_=>none|(q,v)::r,k=>match Nat.beq q k with
  |true=>some v|false=>findU r k
def eO (n:Nat) (j:Nat→SV) (u:List (Nat×SV)):List SV:=tmG j u n 0
theorem fU {i:Nat} (h:i<9223372036854775807):arStd .add .i64 (Int.ofNat i) 1=Int.ofNat (i+1):=by simp only[arStd,IntKind.wrap_i64,Int.ofNat_eq_natCast];omega
structure EN where
 t:Int
 i:Int
 k:Int
 s:ByteArray
def entR:List EN→List FV
 |[]=>[]|e::r=>.sc (.int .u64 e.t):: .sc (.int .u64 e.i):: .sc (.int .i64 e.k):: .sc (.string e.s)::entR r
def rG (e:EN):FV:=.st 212 [.oi 22 .u64 (some e.t),.oi 22 .u64 (some e.i),.oi 306 .i32 none,.bys 5 (tfStd.sz e.s) (tfStd.o e.s)]
def entPs (l:List EN):List FV:=l.map rG
theorem hJ:∀(l:List EN) (j:Nat) (e:EN),l[j]?=some e→nth (entR l) (j*4)=.sc (.int .u64 e.t)∧nth (entR l) (j*4+1)=.sc (.int .u64 e.i)∧nth (entR l) (j*4+2)=.sc (.int .i64 e.k)∧nth (entR l) (j*4+3)=.sc (.string e.s)
 |[],j,e,h=>by simp at h
 |x::r,0,e,h=>by simp at h;subst h;exact⟨rfl,rfl,rfl,rfl⟩
 |x::r,j+1,e,h=>by have:=hJ r j e (by simpa using h);rw[show (j+1)*4=j*4+4 by omega];exact this
def HF:cJ Pay where
 X:=Int×Int×ByteArray×Nat×Option (List UInt8)
 args:=fun(t,i,s,n,d)=>[.agg [.i .u64 t,.i .u64 i,.i .i64 0,.v (.string s)]]
 pre:=fun _=>[]
 obl:=fun(t,i,s,n,d)=>jX s n d
 nf:=1
 res:=fun _ β=>.ptr 0 (β 0) 0
 ws:=fun(t,i,s,n,d) β=>[.cel 0 (.prd (.st (β 0) 212 [.oi 22 .u64 (some t),.oi 22 .u64 (some i),.oi 306 .i32 none,.bys 5 n d]))]
theorem HC:HF.ok Tryz.prog 130:=by
 refine aJ ⟨false,false⟩ (fun TX=>[NB TX]) (fun _=>(.cons M4 .nil)) _ Tryz.func130 Tryz.ntmps130 rfl rfl ?_;intros;rename_i hTX _ _ _ _ CM hC _ _ _ _ _ _ _ _ _ _ x _ _ ho _ hP;obtain⟨t,i,s,n,d⟩:=x;obtain⟨h5,h6⟩:=ho;rw[←hTX] at h5 h6;subst h5;subst h6;have hT:=jX.self hTX s;have h0:CM .ne 0 0=false:=by rw[hC];rfl
 cbv;repeat' first|exact O5|intro β;cbv|apply O4
 rw[h0];cbv;repeat' first|exact O5|intro β;cbv|apply O4
 exact hP (fun _=>β 0) [(4,1)] _ _ rfl bM
def m130 (TX:TF) (args:List SV):SM Pay (HF.X×List Nat):=match args with
 |[.agg [t,i,_,.v (.string s)]]=>match bG t,bG i with
  |some (_,_,t),some (_,_,i)=>.ret ((t,i,s,TX.sz s,TX.o s),[])|_,_=>.fail
 |_=>.fail
theorem x130:cI 130:=⟨_,Tryz.func130,rfl,by decide⟩
def r130 (TX:TF):aN:=⟨130,1,true,HF.app (m130 TX),HF.app_ok HC (m130 TX),fun h=>by cases h⟩
def A9:List FV→List EN
 |.sc (.int _ t):: .sc (.int _ i):: .sc (.int _ k):: .sc (.string s)::r=>⟨t,i,k,s⟩::A9 r|_=>[]
theorem wZ:∀l:List EN,A9 (entR l)=l
 |[]=>rfl|e::r=>by simp[entR,A9,wZ r]
inductive rU (n:Nat) (fl pl:List FV):Prop where
 |mk (l:List EN) (h1:fl=entR l) (h2:l.length=n) (h3:∀e∈l,e.k=0) (h4:pl=entPs l)
def uN (fl:List FV):List FV:=entPs (A9 fl)
theorem rU.self {TX:TF} (h:TX=tfStd) {n:Nat} {fl:List FV} (l:List EN) (h1:fl=entR l) (h2:l.length=n) (h3:∀e∈l,e.k=0):rU n fl (TX.ap uN fl):=
 ⟨l,h1,h2,h3,by subst h;subst h1;show entPs (A9 (entR l))=_;rw[wZ]⟩
def c87:cJ Pay where
 X:=Bool×Nat×Nat×Nat×Nat×Nat×List FV×List FV
 args:=fun(sp,nn,b,off,cap,n,fl,pl)=>[.sl 0 nn b off n cap]
 pre:=fun(sp,nn,b,off,cap,n,fl,pl)=>[.prd (.sl sp nn b off cap (.sl 81 4 n fl))]
 obl:=fun(sp,nn,b,off,cap,n,fl,pl)=>rU n fl pl∧n≤100000
 nf:=1
 res:=fun(sp,nn,b,off,cap,n,fl,pl) β=>.sl 1 (β 0) (β 1) (β 2) n (β 3)
 ws:=fun(sp,nn,b,off,cap,n,fl,pl) β=>[.cel 1 (.prd (.sl true (β 0) (β 1) (β 2) (β 3) (.sl 209 1 n pl)))]
theorem OQ:c87.ok Tryz.prog 87:=by
 refine aJ ⟨false,false⟩ (fun TX=>[r130 TX]) (fun _=>(.cons x130 .nil)) _ Tryz.func87 Tryz.ntmps87 rfl rfl ?_;intros;rename_i jf hjf _ _ _ _ NF hNF _ _ mu hmu TX hTX na hna AR hA CM hC _ _ _ _ _ _ _ _ hL _ x _ _ ho _ hP;obtain⟨sp,nn,b,off,cap,n,fl,pl⟩:=x;obtain⟨⟨l,hfl,hn,hk,hpl⟩,hn2⟩:=ho;change n≤100000 at hn2;change l.length=n at hn;change fl=entR l at hfl;change pl=entPs l at hpl;obtain⟨dl,hdl⟩:∃dl:Nat→List FV,dl=fun j=>pl.take j:=⟨_,rfl⟩;cbv;refine hL _ {x:Nat×Nat×Nat×Nat×Nat//x.1≤n} (fun x j=>eO 19 j [(0,.sl 0 nn b off n cap),(3,.sl 1 x.1.2.1 x.1.2.2.1 x.1.2.2.2.1 x.1.1 x.1.2.2.2.2),(6,.sl 0 nn b off n cap),(7,.i .i64 n),(8,.i .i64 x.1.1)])
  (fun x=>[.prd (.sl sp nn b off cap (.sl 81 4 n fl)),.prd (.sl true x.1.2.1 x.1.2.2.1 x.1.2.2.2.1 x.1.2.2.2.2 (.sl 209 1 x.1.1 (dl x.1.1)))]) (fun x=>n-x.1.1) ⟨(0,0,0,0,0),by simp⟩ [(0,0),(99,101)] _ _ (by decide+kernel) ?_ ?_
 ·have:dl 0=[]:=by rw[hdl];rfl
  refine⟨by cbv,by cbv,by cbv,⟨rfl,?_,trivial⟩⟩;show eF [.nil] (.prd (.sl true 0 0 0 0 (.sl 209 1 0 (dl 0))));rw[this];exact gE 209 1 true
 ·rintro⟨⟨i,d1,d2,d3,d4⟩,hi⟩ j LP hsat2 hLP hX hR;change i≤n at hi
  by_cases h:i<n
  ·have h1:CM .lt (Int.ofNat i) (Int.ofNat n)=true:=by rw[hC];simp[cmStd,h]
   have h3:CM .le 0 (Int.ofNat i)=true:=by rw[hC];simp[cmStd]
   have hadd:AR .add .i64 (Int.ofNat i) 1=Int.ofNat (i+1):=by rw[hA];exact fU (by omega)
   obtain⟨e,he⟩:∃e,l[i]?=some e:=⟨l[i],by simp⟩;obtain⟨n0,n1,n2,n3⟩:=hJ l i e he;have hA0:NF fl (mu i 4)=.sc (.int .u64 e.t):=by rw[hNF,hmu,hfl];exact n0
   have hA1:NF fl (mu i 4+1)=.sc (.int .u64 e.i):=by rw[hNF,hmu,hfl];exact n1
   have hA2:NF fl (mu i 4+1+1)=.sc (.int .i64 0):=by rw[hNF,hmu,hfl];rw[hk e (List.mem_of_getElem? he)] at n2;exact n2
   have hA3:NF fl (mu i 4+1+1+1)=.sc (.string e.s):=by rw[hNF,hmu,hfl];exact n3
   have hT:=jX.self hTX e.s;have hle:CM .le (Int.ofNat (mu i 4+4)) (Int.ofNat (mu n 4))=true:=by rw[hC,hmu];simp only[cmStd,decide_eq_true_eq,Int.ofNat_eq_natCast];omega
   have hle2:CM .le (Int.ofNat (na i 1)) 4294967296=true:=by rw[hC,hna];simp only[cmStd,decide_eq_true_eq,Int.ofNat_eq_natCast];omega
   cbv;repeat' first|exact O5|intro β;cbv|apply O4
   rw[h1];cbv;repeat' first|exact O5|intro β;cbv|apply O4
   rw[hA0];cbv;repeat' first|exact O5|intro β;cbv|apply O4
   rw[hA1];cbv;repeat' first|exact O5|intro β;cbv|apply O4
   rw[hA2];cbv;repeat' first|exact O5|intro β;cbv|apply O4
   rw[hA3];cbv;repeat' first|exact O5|intro β;cbv|apply O4
   rw[hadd];have e1:na i 1=i+1:=by rw[hna]
   have e2:jf (dl i) [.st 212 [.oi 22 .u64 (some e.t),.oi 22 .u64 (some e.i),.oi 306 .i32 none,.bys 5 (TX.sz e.s) (TX.o e.s)]]=dl (i+1):=by
    rw[hjf,hdl,hTX];show pl.take i++[rG e]=pl.take (i+1);have:pl[i]?=some (rG e):=by rw[hpl,entPs,List.getElem?_map,he];rfl
    rw[List.take_add_one,this];rfl
   rw[e1];exact hLP ⟨(i+1,β 0,β 1,β 2,β 3),by show i+1≤n;omega⟩ [(0,0),(5,0)] _ (by show n-(i+1)<n-i;omega) ⟨rfl,rfl,rfl,⟨rfl,congrArg (fun z=>Pay.sl true (β 0) (β 1) (β 2) (β 3) (.sl 209 1 (i+1) z)) e2,trivial⟩⟩
  ·have h1:CM .lt (Int.ofNat i) (Int.ofNat n)=false:=by rw[hC];simp[cmStd,h]
   cbv;repeat' first|exact O5|intro β;cbv|apply O4
   rw[h1];cbv;repeat' first|exact O5|intro β;cbv|apply O4
   apply hX;cbv;repeat' first|exact O5|intro β;cbv|apply O4
   have e1:i=n:=by omega
   subst e1;have e2:dl i=pl:=by rw[hdl];show pl.take i=pl;rw[List.take_of_length_le];rw[hpl];simp[entPs,hn]
   refine hP (fun|0=>d1|1=>d2|2=>d3|_=>d4) [(0,0),(1,0)] _ _ rfl ⟨trivial,rfl,rfl,⟨rfl,?_,trivial⟩⟩;show Pay.sl true d1 d2 d3 d4 (.sl 209 1 i (dl i))=Pay.sl true d1 d2 d3 d4 (.sl 209 1 i pl);rw[e2]
def m87 (TX:TF) (args:List SV):SM Pay (c87.X×List Nat):=match args with
 |[.sl h nn b off n cap]=>.rdC h fun c=>match c with
  |.prd (.sl sp _ _ _ _ (.sl _ _ _ fl))=>.ret ((sp,nn,b,off,cap,n,fl,TX.ap uN fl),[h])|_=>.fail
 |_=>.fail
theorem x87:cI 87:=⟨_,Tryz.func87,rfl,by decide⟩
def r87 (TX:TF):aN:=⟨87,1,true,c87.app (m87 TX),c87.app_ok OQ (m87 TX),fun h=>by cases h⟩
def JZ:cJ Pay where
 X:=Int
 args:=fun x=>[.i .u64 x]
 pre:=fun _=>[]
 nf:=0
 res:=fun x _=>.bl false
 ws:=fun _ _=>[]
theorem GL:JZ.ok Tryz.prog 403:=by
 refine aJ ⟨false,false⟩ (fun _=>[]) (fun _=>.nil) _ Tryz.func403 Tryz.ntmps403 rfl rfl ?_;intros;rename_i CM hC _ _ _ _ _ _ _ _ _ _ x _ _ _ _ hP;have h:CM .ne x x=false:=by rw[hC];exact bne_self_eq_false (α:=Int) x
 cbv;repeat' first|exact O5|intro β;cbv|apply O4
 rw[h];exact hP (fun _=>0) [] _ _ rfl bM
def m403 (args:List SV):SM Pay (JZ.X×List Nat):=match args with
 |[x]=>match bG x with
  |some (_,_,x)=>.ret (x,[])|_=>.fail
 |_=>.fail
theorem x403:cI 403:=⟨_,Tryz.func403,rfl,by decide⟩
def r403:aN:=⟨403,0,true,JZ.app m403,JZ.app_ok GL m403,fun h=>by cases h⟩
inductive OLt (x y:Int) (r:Bool):Prop where
 |mk (h:r=decide (x<y))
def sD (x:Int×Int):Bool:=decide (x.1<x.2)
def HB:cJ Pay where
 X:=Int×Int×Bool
 args:=fun(x,y,_)=>[.i .u64 x,.i .u64 y]
 pre:=fun _=>[]
 obl:=fun(x,y,r)=>OLt x y r
 nf:=0
 res:=fun(x,y,r) _=>.bl r
 ws:=fun _ _=>[]
theorem I7:HB.ok Tryz.prog 377:=by
 refine aJ ⟨false,false⟩ (fun _=>[r403]) (fun _=>(.cons x403 .nil)) _ Tryz.func377 Tryz.ntmps377 rfl rfl ?_;intros;rename_i CM hC _ _ _ _ _ _ _ _ _ _ x _ _ ho _ hP;obtain⟨x,y,r⟩:=x;obtain⟨ho⟩:=ho;have h:CM .lt x y=r:=by rw[hC,ho];rfl
 cbv;repeat' first|exact O5|intro β;cbv|apply O4
 rw[h];exact hP (fun _=>0) [] _ _ rfl bM
def m377 (TX:TF) (args:List SV):SM Pay (HB.X×List Nat):=match args with
 |[x,y]=>match bG x,bG y with
  |some (_,_,x),some (_,_,y)=>.ret ((x,y,TX.ap sD (x,y)),[])|_,_=>.fail
 |_=>.fail
theorem xG:cI 377:=⟨_,Tryz.func377,rfl,by decide⟩
def wQ (TX:TF):aN:=⟨377,0,true,HB.app (m377 TX),HB.app_ok I7 (m377 TX),fun h=>by cases h⟩
theorem sF {d:Array Int} {k:Nat} (h:k<d.size):dI d.toList k=d[k]!:=by have e:=cO (l:=d.toList) (j:=k) (by simpa using h);simp[h] at e⊢;exact e.symm
theorem qK (d:Array Int) (i j:Nat) (hi:i<d.size) (hj:j<d.size):nP (nP (d.toList,i,dI d.toList j),j,dI d.toList i)=(Sort.swp d i j).toList:=by rw[sF hi,sF hj];simp[nP,Sort.swp]
theorem pT (d:Array Int) (i j:Nat):(Sort.swp d i j).size=d.size:=by simp[Sort.swp]
theorem zU {b off cap n:Nat} {nn a e:Nat} {l r:List Int} {K:SV→List C→Prop} (hr:r=(Sort.insertionSort Sort.ltInt l.toArray a e).toList)
  (hl:l.length=n) (he:e≤n) (ha:a≤n) (hn:n≤100000)
  (hKK:K (.tup []) [.prd (.mr 22 .u64 nn b off cap n r)]) (F:HProp):
  inS Tryz.prog F 371 [.sl 0 nn b off n cap,.i .i64 (Int.ofNat a),.i .i64 (Int.ofNat e)] [.prd (.mr 22 .u64 nn b off cap n l)] K:=by
 obtain⟨DL,hDL⟩:∃DL:Array Int→List Int,DL=fun d=>d.toList:=⟨_,rfl⟩;obtain⟨d0,hd0⟩:∃d0:Array Int,d0=l.toArray:=⟨_,rfl⟩;rw[←hd0] at hr;refine aF ⟨false,false⟩ (fun TX=>[wQ TX]) (fun _=>(.cons xG .nil)) Tryz.func371 Tryz.ntmps371 rfl rfl ?_;intros;rename_i NI hNI _ _ _ _ _ _ TX hTX _ _ AR hA CM hC _ _ _ _ _ _ _ _ hL _ _ _ hP;obtain⟨tz,tl,tt,to,ap⟩:=TX;have hap:∀{α β:Type} (f:α→β) (x:α),ap f x=f x:=fun f x=>congrArg (fun t:TF=>t.ap f x) hTX;have hadd:∀i:Nat,i≤n→AR .add .i64 (Int.ofNat i) 1=Int.ofNat (i+1):=by intro i hi;rw[hA];exact fU (by omega)
 have hsub:∀i:Nat,i<n→AR .sub .i64 (Int.ofNat (i+1)) 1=Int.ofNat i:=by intro i hi;rw[hA];simp only[arStd,IntKind.wrap_i64,Int.ofNat_eq_natCast];omega
 have hlt:∀x y,OLt x y (ap sD (x,y)):=by intro x y;rw[hap];exact⟨rfl⟩
 cbv;repeat' first|exact O5|intro β;cbv|apply O4
 rw[hadd a ha];refine hL _ {x:Nat×Array Int//(x.1≤e∨x.1=a+1)∧x.2.size=n∧Sort.insOuter Sort.ltInt a e x.1 x.2=Sort.insertionSort Sort.ltInt d0 a e}
  (fun x j=>eO 49 j [(0,.sl 0 nn b off n cap),(1,.i .i64 a),(2,.i .i64 e),(6,.i .i64 x.1.1)])
  (fun x=>[.prd (.mr 22 .u64 nn b off cap n (DL x.1.2))]) (fun x=>e-x.1.1) ⟨(a+1,d0),.inr rfl,by rw[hd0];simpa using hl,rfl⟩ [(0,0)] _ _ (by decide+kernel) ?_ ?_
 ·have:DL d0=l:=by rw[hDL,hd0]
  refine⟨rfl,rfl,rfl,⟨?_,trivial⟩⟩;show Pay.mr 22 .u64 nn b off cap n l=Pay.mr 22 .u64 nn b off cap n (DL d0);rw[this]
 rintro⟨⟨i,d⟩,hi,hs,hd⟩ j LP hsat2 hLP hX hR;change i≤e∨i=a+1 at hi;change d.size=n at hs;change Sort.insOuter Sort.ltInt a e i d=_ at hd;rcases Nat.lt_or_ge i e with h|h
 ·have h5:CM .lt (Int.ofNat i) (Int.ofNat e)=true:=by rw[hC];simp[cmStd,h]
  cbv;repeat' first|exact O5|intro β;cbv|apply O4
  rw[h5];cbv;repeat' first|exact O5|intro β;cbv|apply O4
  refine hL _ {x:Nat×Array Int//x.1≤i∧x.2.size=n∧Sort.insInner Sort.ltInt a x.1 x.2=Sort.insInner Sort.ltInt a i d}
   (fun x j=>eO 49 j [(0,.sl 0 nn b off n cap),(1,.i .i64 a),(2,.i .i64 e),(6,.i .i64 i),(7,.i .i64 x.1.1)])
   (fun x=>[.prd (.mr 22 .u64 nn b off cap n (DL x.1.2))]) (fun x=>x.1.1) ⟨(i,d),Nat.le_refl _,hs,rfl⟩ [(0,0)] _ _ (by decide+kernel) ⟨rfl,rfl,rfl,⟨rfl,trivial⟩⟩ ?_
  rintro⟨⟨k,d'⟩,hk,hs',hd'⟩ j2 LP2 hsat3 hLP2 hX2 hR2;change k≤i at hk;change d'.size=n at hs';change Sort.insInner Sort.ltInt a k d'=_ at hd';have nxt:d'=Sort.insInner Sort.ltInt a i d→Sort.insOuter Sort.ltInt a e (i+1) d'=Sort.insertionSort Sort.ltInt d0 a e:=by
   intro h2;rw[←hd,h2]
   conv=>rhs;rw[Sort.insOuter,if_pos h]
  rcases Nat.lt_or_ge a k with hka|hka
  ·have h6:CM .lt (Int.ofNat a) (Int.ofNat k)=true:=by rw[hC];simp[cmStd,hka]
   obtain⟨k',hk'⟩:∃k',k=k'+1:=⟨k-1,by omega⟩;have hsb:AR .sub .i64 (Int.ofNat k) 1=Int.ofNat k':=by rw[hk'];exact hsub k' (by omega)
   have b1:CM .le 0 (Int.ofNat k)=true:=by rw[hC];simp[cmStd]
   have b2:CM .lt (Int.ofNat k) (Int.ofNat n)=true:=by rw[hC];simp[cmStd];omega
   have b3:CM .le 0 (Int.ofNat k')=true:=by rw[hC];simp[cmStd]
   have b4:CM .lt (Int.ofNat k') (Int.ofNat n)=true:=by rw[hC];simp[cmStd];omega
   cbv;repeat' first|exact O5|intro β;cbv|apply O4
   rw[h6];cbv;repeat' first|exact O5|intro β;cbv|apply O4
   all_goals simp only[hsb]
   all_goals try assumption
   all_goals try exact hlt _ _
   obtain⟨q,hq⟩:∃q,ap sD (NI (DL d') k,NI (DL d') k')=q:=⟨_,rfl⟩;have hq2:q=decide (d'[k]!<d'[k']!):=by rw[←hq,hap,hNI,hDL];show decide (dI d'.toList k<dI d'.toList k')=_;rw[sF (by omega),sF (by omega)]
   rw[hq];cases q with
   |true=>
    cbv;repeat' first|exact O5|intro β;cbv|apply O4
    all_goals simp only[hsb]
    all_goals try assumption
    have hsw:ap nP (ap nP (DL d',k,NI (DL d') k'),k',NI (DL d') k)=DL (Sort.swp d' k k'):=by rw[hap,hap,hNI,hDL];exact qK d' k k' (by omega) (by omega)
    rw[hsw];refine hLP2 ⟨(k',Sort.swp d' k k'),by show k'≤i;omega,by show (Sort.swp d' k k').size=n;rw[pT];exact hs',?_⟩ [(0,0)] _ (by show k'<k;omega) ⟨rfl,rfl,rfl,⟨rfl,trivial⟩⟩;show Sort.insInner Sort.ltInt a k' (Sort.swp d' k k')=_;rw[←hd',hk',Sort.insInner,if_pos];have h8:k'+1>a:=by omega
    rw[Bool.and_eq_true];exact⟨decide_eq_true h8,by rw[←hk'];exact hq2.symm⟩
   |false=>
    cbv;repeat' first|exact O5|intro β;cbv|apply O4
    apply hX2;cbv;repeat' first|exact O5|intro β;cbv|apply O4
    rw[hadd i (by omega)];have hfin:d'=Sort.insInner Sort.ltInt a i d:=by rw[←hd',hk',Sort.insInner,if_neg];simp only[Sort.ltInt,←hk'];rw[←hq2];simp
    exact hLP ⟨(i+1,d'),.inl (by show i+1≤e;omega),hs',nxt hfin⟩ [(0,0)] _ (by show e-(i+1)<e-i;omega) ⟨rfl,rfl,rfl,⟨rfl,trivial⟩⟩
  ·have h6:CM .lt (Int.ofNat a) (Int.ofNat k)=false:=by rw[hC];simp[cmStd];omega
   cbv;repeat' first|exact O5|intro β;cbv|apply O4
   rw[h6];cbv;repeat' first|exact O5|intro β;cbv|apply O4
   apply hX2;cbv;repeat' first|exact O5|intro β;cbv|apply O4
   rw[hadd i (by omega)];have hfin:d'=Sort.insInner Sort.ltInt a i d:=by
    rw[←hd'];cases k with
    |zero=>rfl|succ k=>
     rw[Sort.insInner,if_neg];have:¬(k+1>a):=by omega
     simp[this]
   exact hLP ⟨(i+1,d'),.inl (by show i+1≤e;omega),hs',nxt hfin⟩ [(0,0)] _ (by show e-(i+1)<e-i;omega) ⟨rfl,rfl,rfl,⟨rfl,trivial⟩⟩
 ·have h5:CM .lt (Int.ofNat i) (Int.ofNat e)=false:=by rw[hC];simp[cmStd];omega
  cbv;repeat' first|exact O5|intro β;cbv|apply O4
  rw[h5];cbv;repeat' first|exact O5|intro β;cbv|apply O4
  apply hX;cbv;repeat' first|exact O5|intro β;cbv|apply O4
  have hfin:r=DL d:=by rw[hr,←hd,hDL,Sort.insOuter,if_neg (by omega)]
  refine hP [(0,0)] _ _ _ _ ?_ rfl ?_ hKK
  ·rfl
  ·refine⟨?_,trivial⟩;show Pay.mr 22 .u64 nn b off cap n (DL d)=Pay.mr 22 .u64 nn b off cap n r;rw[hfin]
end Go.Sx
