/-
  What the row of FnHeartbeat says of the program's text, part by part: the kernel counts each part by itself, so that its memory is enough.
-/
import Derived.Test.YtjikgjdicpggkaaGreatRows
import Derived.ProofKit
namespace Go.Proofs.YtjikgjdicpggkaaGreat
set_option linter.all false
set_option maxRecDepth 100000
theorem hbOwn : ownKnob Tryz.prog.godebug = none := by kernel_rfl
theorem hbLaid : laidOutB Tryz.prog = true := by kernel_rfl
theorem hb1 : mapsRowed Tryz.prog = true := by kernel_rfl
theorem hb2 : namedTie Tryz.prog Rows.fnHeartbeatRow.named Rows.fnHeartbeatSpec.vars = true := by kernel_rfl
theorem hb3 : (Rows.fnHeartbeatRow.inPlace == Tryz.prog.inPlace 16) = true := by kernel_rfl
theorem hb4 : (Rows.fnHeartbeatRow.unfollowed == Tryz.prog.unfollowed 16) = true := by kernel_rfl
theorem hb5 : (Rows.fnHeartbeatRow.recurses == Tryz.prog.recurses 16) = true := by kernel_rfl
theorem hb6 : (Rows.fnHeartbeatRow.named == Tryz.prog.varsNamed 16) = true := by kernel_rfl
theorem hb7 : Tryz.prog.mayEnter = true := by kernel_rfl
theorem hb8 : (Rows.fnHeartbeatRow.lifted == Tryz.prog.liftsFinal) = true := by kernel_rfl
theorem hb9 : (Tryz.prog.make == some Rows.fnHeartbeatRow.make) = true := by kernel_rfl
theorem hb10 : Tryz.prog.stopsHeard = true := by kernel_rfl
theorem hb11 : (Rows.fnHeartbeatRow.plainKeys == Tryz.prog.plainKeys) = true := by kernel_rfl
theorem hb12 : (Rows.fnHeartbeatRow.loops == (Tryz.f16.params.toList ++ Rows.fnHeartbeatSpec.plain.varTypes Tryz.prog).any (Tryz.prog.loopsFrom ·)) = true := by kernel_rfl
theorem hbClosed : joinedFacts Tryz.prog 16 Tryz.f16 Rows.fnHeartbeatSpec Rows.fnHeartbeatRow = true := by
  unfold joinedFacts
  rw [hbLaid, hb1, hb2, hb3, hb4, hb5, hb6, hb7, hb8, hb9, hb10, hb11, hb12]
  kernel_rfl
theorem hbNamed : Tryz.prog.funcNamed Rows.fnHeartbeatRow.func = some 16 := by kernel_rfl
theorem hbInst : Tryz.f16.isInstance Tryz.prog Rows.fnHeartbeatRow.origin Rows.fnHeartbeatRow.targs := of_decide_eq_true (by kernel_rfl)
theorem hbWrap : Tryz.f16.isWrapper Tryz.prog Rows.fnHeartbeatRow.wrapper Rows.fnHeartbeatRow.mainSum := by unfold Func.isWrapper; rw [if_neg (of_decide_eq_false (by kernel_rfl))]; exact ⟨rfl, rfl⟩
theorem hbInit : Tryz.prog.inits.idxOf? 16 = none := by kernel_rfl
end Go.Proofs.YtjikgjdicpggkaaGreat
