import Derived.Test.YtjikgjdicpggkaaGreatX17
set_option autoImplicit true
set_option relaxedAutoImplicit true
set_option linter.all false
set_option maxRecDepth 100000
set_option maxHeartbeats 4000000
namespace Go.Sx
open Go Go.Proofs
def rfM (x:RF) (trk:List SV) (lf:Bool) (ms ma:SV) (zz:SV):C:=.raw true x.b 264 ([.i .u64 x.id,.i .u64 x.term,.i .u64 x.vote,.v (.slice none 0 0),.ptr 4 x.lb 0,.i .u64 x.ms,.i .u64 18446744073709551615]++trk++
 [.hv 5 (.map (some x.wb)),.i .i64 x.mi,.i .u64 18446744073709551615,.i .u64 0,.bl lf,ms,ma,.i .u64 x.lead,.i .u64 0,.i .u64 0,.bl false,.i .u64 0,.ptr 6 x.ob 0,.i .i64 0,.i .i64 0,.bl x.cq,.bl x.pv,.i .i64 x.ht,.i .i64 x.et,.i .i64 x.rt,.bl x.nf,.bl x.sd,yS x.b,nZ,.v (.slice none 0 0),zz,.i .i64 x.nx])
def fI (x:RF) (o:LL) (lf:Bool) (ms ma:SV) (V:List Int) (P:MQ) (g:LGF) (ro:Int) (ab:Nat) (z:ZF) (s:STO):List C:=
 [rfM x (rV x o) lf ms ma (.sl 7 z.n z.b z.o z.l z.c),.prd (.mp x.vb (.set V) none),.prd (.mp x.pb (.ptrs 410 P) none),BT o,oO x.lb 8 s.b g.r,.prd (.h (dL x.wb)),
  .raw true x.ob 398 [.i .i64 ro,.hv 10 (.map (some ab)),.v (.slice none 0 0),.i .u64 0],.prd (.sl z.sp z.n z.b z.o z.c (.ul 3 .i64 z.l z.Z)),s.raw 9,s.row,.prd (.h (dL ab))]
end Go.Sx
