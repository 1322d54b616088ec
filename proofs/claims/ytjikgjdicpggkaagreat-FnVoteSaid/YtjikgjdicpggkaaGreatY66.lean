import Derived.Test.YtjikgjdicpggkaaGreatX17
set_option autoImplicit true
set_option relaxedAutoImplicit true
set_option linter.all false
set_option maxRecDepth 100000
set_option maxHeartbeats 4000000
namespace Go.Sx
open Go Go.Proofs
def c191:cJ Pay where
 X:=Int
 args:=fun k=>[.i .i32 k]
 pre:=fun _=>[]
 obl:=fun k=>O191 k
 res:=fun _ _=>.i .i32 6
theorem c191_ok:c191.ok Tryz.prog 191:=by
 refine aJ ⟨false,false⟩ (fun _=>[]) (fun _=>.nil) _ Tryz.func191 Tryz.ntmps191 rfl rfl ?_;intros;rename_i CM _ _ _ _ _ _ _ _ _ _ _ x _ _ ho _ hP;change Int at x;obtain⟨h⟩:=ho;subst h;have c5:CM .eq 5 5=true:=O6;cbv;repeat' first|exact O5|intro β;cbv|apply O4
 repeat (any_goals (simp only[c5];try (cbv;repeat' first|exact O5|intro β;cbv|apply O4)))
 exact hP (fun _=>0) [] _ _ rfl bM
def m191 (args:List SV):SM Pay (c191.X×List Nat):=match args with
 |[n]=>match bG n with
  |some (_,_,n)=>.ret (n,[])|none=>.fail
 |_=>.fail
theorem x191:cI 191:=⟨_,Tryz.func191,rfl,by decide⟩
def r191:aN:=⟨191,0,true,c191.app m191,c191.app_ok c191_ok m191,fun h=>by cases h⟩
end Go.Sx
