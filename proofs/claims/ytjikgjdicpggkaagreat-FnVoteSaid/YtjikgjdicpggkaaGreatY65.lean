import Derived.Test.YtjikgjdicpggkaaGreatY49
import Derived.Test.YtjikgjdicpggkaaGreatY64
set_option autoImplicit true
set_option relaxedAutoImplicit true
set_option linter.all false
set_option maxRecDepth 100000
set_option maxHeartbeats 4000000
namespace Go.Sx
open Go Go.Proofs Go.ChangeShapes Go.WideShapes
theorem vt_walk {s:iT} (hw:s.wf3) {fr tm mx ml:Int} {W:World} (h0:0<W.heap.size) (hr:(big s.cells).h cG (iW W)):
  Calls Tryz.prog 4 #[.agg (SV.dens (s.cs 0 1 2 3 4 5)).toArray,.int .u64 fr,.int .u64 tm,.int .u64 mx,.int .u64 ml] W fun e w'=>e=.returned (.bool true)∧RowKit.Below W.heap.size W w':=
 H0 (args:=[.agg (s.cs 0 1 2 3 4 5),.i .u64 fr,.i .u64 tm,.i .u64 mx,.i .u64 ml]) h0 hr (s4 hw rfl _)
end Go.Sx
