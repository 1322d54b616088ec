/-
  What the row of FnVote says of the program's text, part by part: the kernel counts each part by itself, so that its memory is enough.
-/
import Derived.Test.YtjikgjdicpggkaaGreatRows
import Derived.ProofKit
namespace Go.Proofs.YtjikgjdicpggkaaGreat
set_option linter.all false
set_option maxRecDepth 100000
theorem vOwn : ownKnob Tryz.prog.godebug = none := by kernel_rfl
theorem vLaid : laidOutB Tryz.prog = true := by kernel_rfl
theorem v1 : mapsRowed Tryz.prog = true := by kernel_rfl
theorem v2 : namedTie Tryz.prog Rows.fnVoteRow.named Rows.fnVoteSpec.vars = true := by kernel_rfl
theorem v3 : (Rows.fnVoteRow.inPlace == Tryz.prog.inPlace 4) = true := by kernel_rfl
theorem v4 : (Rows.fnVoteRow.unfollowed == Tryz.prog.unfollowed 4) = true := by kernel_rfl
theorem v5 : (Rows.fnVoteRow.recurses == Tryz.prog.recurses 4) = true := by kernel_rfl
theorem v6 : (Rows.fnVoteRow.named == Tryz.prog.varsNamed 4) = true := by kernel_rfl
theorem v7 : Tryz.prog.mayEnter = true := by kernel_rfl
theorem v8 : (Rows.fnVoteRow.lifted == Tryz.prog.liftsFinal) = true := by kernel_rfl
theorem v9 : (Tryz.prog.make == some Rows.fnVoteRow.make) = true := by kernel_rfl
theorem v10 : Tryz.prog.stopsHeard = true := by kernel_rfl
theorem v11 : (Rows.fnVoteRow.plainKeys == Tryz.prog.plainKeys) = true := by kernel_rfl
theorem v12 : (Rows.fnVoteRow.loops == (Tryz.f4.params.toList ++ Rows.fnVoteSpec.plain.varTypes Tryz.prog).any (Tryz.prog.loopsFrom ·)) = true := by kernel_rfl
theorem vClosed : joinedFacts Tryz.prog 4 Tryz.f4 Rows.fnVoteSpec Rows.fnVoteRow = true := by
  unfold joinedFacts
  rw [vLaid, v1, v2, v3, v4, v5, v6, v7, v8, v9, v10, v11, v12]
  kernel_rfl
theorem vNamed : Tryz.prog.funcNamed Rows.fnVoteRow.func = some 4 := by kernel_rfl
theorem vInst : Tryz.f4.isInstance Tryz.prog Rows.fnVoteRow.origin Rows.fnVoteRow.targs := of_decide_eq_true (by kernel_rfl)
theorem vWrap : Tryz.f4.isWrapper Tryz.prog Rows.fnVoteRow.wrapper Rows.fnVoteRow.mainSum := by unfold Func.isWrapper; rw [if_neg (of_decide_eq_false (by kernel_rfl))]; exact ⟨rfl, rfl⟩
theorem vInit : Tryz.prog.inits.idxOf? 4 = none := by kernel_rfl
end Go.Proofs.YtjikgjdicpggkaaGreat
