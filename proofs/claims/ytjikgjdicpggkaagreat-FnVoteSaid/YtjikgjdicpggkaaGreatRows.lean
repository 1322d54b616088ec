/-
  No cell of these rows narrows 'for every input' (looked for: loops, veiled, ifaces, maps, wideKeys, modest, calm, conditions, laid).
  DERIVED. THE GIVEN ROWS OF THIS SEAT. 16 by the template 'for every input the law returns true; each argument reads behind the call as it read before'; 0 by the template 'total and deterministic' (their statements: YtjikgjdicpggkaaGreatTotals.lean).
  GIVEN WITH THE SEED: the statements are not yours to turn. If you find one false, say at which input.
  Laid BY PROGRAM, IN A SANDBOX (cutbox-rows.mjs): the forced cells as the released guide's own fill.sh prints them over the translation 1247353aff7bec76… (all of the seat's roots in one cut). By AI agents, Wed Nov 11 2026. No macro, syntax, notation, axiom, sorry.
-/
import Derived.Test.YtjikgjdicpggkaaGreatChecked
import GoSem.Claim
import GoSem.ClaimJoined
import GoSem.ClaimMapViews
import Derived.JoinedTies
import Derived.KernelRfl
namespace Go.Proofs.YtjikgjdicpggkaaGreat
/- THE CELL 'sum', in the pinned program and in every row, IS THE sha256 OF THE DUMP (.gsa) THAT YtjikgjdicpggkaaGreatProg.lean LOADS. Nothing in Lean hashes anything: it is a label: what it is worth is what the hold of that sum in a sandbox is worth. -/
noncomputable def Tryz.pinned : Pinned := { name := "ytjikgjdicpggkaagreat", sum := "1247353aff7bec767c0a828730c54f0855c20f8b4b30e7fea2a24471dc0bb552", checked := Tryz.checked }
namespace Rows
def none {H : Type} : Left H := { results := [], args := [] }

/-- 'laws.FnTransfer': WHATEVER THE INPUT: true; the input reads as it did. -/
def fnTransferSpec : ChangeSpec := { name := "fnTransfer", fn := fun _ => fun
  | [d1, d2] => { results := [.lit (.bool true)], args := [d1, d2] }
  | _ => none }
def fnTransferRow : OpenClaim := { program := "ytjikgjdicpggkaagreat", sum := "1247353aff7bec767c0a828730c54f0855c20f8b4b30e7fea2a24471dc0bb552", func := "pub-comitia/laws.FnTransfer", spec := "fnTransfer", unfollowed := true, recurses := true, named := ["encoding/binary.LittleEndian"], apart := false }
def FnTransferSaid : Prop := fnTransferRow.holds Tryz.pinned (OpenSpec.ofChange fnTransferSpec)

/-- ITS FALSE NEIGHBOUR: 'it returns false'. Refute it at one input. -/
def fnTransferWrong : ChangeSpec := { name := "fnTransfer", fn := fun _ => fun
  | [d1, d2] => { results := [.lit (.bool false)], args := [d1, d2] }
  | _ => none }
def FnTransferWrongFalsely : Prop := fnTransferRow.holds Tryz.pinned (OpenSpec.ofChange fnTransferWrong)

/-- 'laws.FnVote': WHATEVER THE INPUT: true; the input reads as it did. -/
def fnVoteSpec : ChangeSpec := { name := "fnVote", fn := fun _ => fun
  | [d1, d2, d3, d4, d5] => { results := [.lit (.bool true)], args := [d1, d2, d3, d4, d5] }
  | _ => none }
def fnVoteRow : OpenClaim := { program := "ytjikgjdicpggkaagreat", sum := "1247353aff7bec767c0a828730c54f0855c20f8b4b30e7fea2a24471dc0bb552", func := "pub-comitia/laws.FnVote", spec := "fnVote", unfollowed := true, recurses := true, named := ["encoding/binary.LittleEndian"], apart := false }
def FnVoteSaid : Prop := fnVoteRow.holds Tryz.pinned (OpenSpec.ofChange fnVoteSpec)

/-- ITS FALSE NEIGHBOUR: 'it returns false'. Refute it at one input. -/
def fnVoteWrong : ChangeSpec := { name := "fnVote", fn := fun _ => fun
  | [d1, d2, d3, d4, d5] => { results := [.lit (.bool false)], args := [d1, d2, d3, d4, d5] }
  | _ => none }
def FnVoteWrongFalsely : Prop := fnVoteRow.holds Tryz.pinned (OpenSpec.ofChange fnVoteWrong)

/-- 'laws.FnNetVotes': WHATEVER THE INPUT: true; the input reads as it did. -/
def fnNetVotesSpec : ChangeSpec := { name := "fnNetVotes", fn := fun _ => fun
  | [d1, d2] => { results := [.lit (.bool true)], args := [d1, d2] }
  | _ => none }
def fnNetVotesRow : OpenClaim := { program := "ytjikgjdicpggkaagreat", sum := "1247353aff7bec767c0a828730c54f0855c20f8b4b30e7fea2a24471dc0bb552", func := "pub-comitia/laws.FnNetVotes", spec := "fnNetVotes", unfollowed := true, recurses := true, named := ["encoding/binary.LittleEndian"], apart := false }
def FnNetVotesSaid : Prop := fnNetVotesRow.holds Tryz.pinned (OpenSpec.ofChange fnNetVotesSpec)

/-- ITS FALSE NEIGHBOUR: 'it returns false'. Refute it at one input. -/
def fnNetVotesWrong : ChangeSpec := { name := "fnNetVotes", fn := fun _ => fun
  | [d1, d2] => { results := [.lit (.bool false)], args := [d1, d2] }
  | _ => none }
def FnNetVotesWrongFalsely : Prop := fnNetVotesRow.holds Tryz.pinned (OpenSpec.ofChange fnNetVotesWrong)

/-- 'laws.FnNetApplied': WHATEVER THE INPUT: true; the input reads as it did. -/
def fnNetAppliedSpec : ChangeSpec := { name := "fnNetApplied", fn := fun _ => fun
  | [d1, d2] => { results := [.lit (.bool true)], args := [d1, d2] }
  | _ => none }
def fnNetAppliedRow : OpenClaim := { program := "ytjikgjdicpggkaagreat", sum := "1247353aff7bec767c0a828730c54f0855c20f8b4b30e7fea2a24471dc0bb552", func := "pub-comitia/laws.FnNetApplied", spec := "fnNetApplied", unfollowed := true, recurses := true, named := ["encoding/binary.LittleEndian"], apart := false }
def FnNetAppliedSaid : Prop := fnNetAppliedRow.holds Tryz.pinned (OpenSpec.ofChange fnNetAppliedSpec)

/-- ITS FALSE NEIGHBOUR: 'it returns false'. Refute it at one input. -/
def fnNetAppliedWrong : ChangeSpec := { name := "fnNetApplied", fn := fun _ => fun
  | [d1, d2] => { results := [.lit (.bool false)], args := [d1, d2] }
  | _ => none }
def FnNetAppliedWrongFalsely : Prop := fnNetAppliedRow.holds Tryz.pinned (OpenSpec.ofChange fnNetAppliedWrong)

/-- 'laws.FnNetDouble': WHATEVER THE INPUT: true; the input reads as it did. -/
def fnNetDoubleSpec : ChangeSpec := { name := "fnNetDouble", fn := fun _ => fun
  | [d1, d2] => { results := [.lit (.bool true)], args := [d1, d2] }
  | _ => none }
def fnNetDoubleRow : OpenClaim := { program := "ytjikgjdicpggkaagreat", sum := "1247353aff7bec767c0a828730c54f0855c20f8b4b30e7fea2a24471dc0bb552", func := "pub-comitia/laws.FnNetDouble", spec := "fnNetDouble", unfollowed := true, recurses := true, named := ["encoding/binary.LittleEndian"], apart := false }
def FnNetDoubleSaid : Prop := fnNetDoubleRow.holds Tryz.pinned (OpenSpec.ofChange fnNetDoubleSpec)

/-- ITS FALSE NEIGHBOUR: 'it returns false'. Refute it at one input. -/
def fnNetDoubleWrong : ChangeSpec := { name := "fnNetDouble", fn := fun _ => fun
  | [d1, d2] => { results := [.lit (.bool false)], args := [d1, d2] }
  | _ => none }
def FnNetDoubleWrongFalsely : Prop := fnNetDoubleRow.holds Tryz.pinned (OpenSpec.ofChange fnNetDoubleWrong)

/-- 'laws.FnNetLeaders': WHATEVER THE INPUT: true; the input reads as it did. -/
def fnNetLeadersSpec : ChangeSpec := { name := "fnNetLeaders", fn := fun _ => fun
  | [d1, d2] => { results := [.lit (.bool true)], args := [d1, d2] }
  | _ => none }
def fnNetLeadersRow : OpenClaim := { program := "ytjikgjdicpggkaagreat", sum := "1247353aff7bec767c0a828730c54f0855c20f8b4b30e7fea2a24471dc0bb552", func := "pub-comitia/laws.FnNetLeaders", spec := "fnNetLeaders", unfollowed := true, recurses := true, named := ["encoding/binary.LittleEndian"], apart := false }
def FnNetLeadersSaid : Prop := fnNetLeadersRow.holds Tryz.pinned (OpenSpec.ofChange fnNetLeadersSpec)

/-- ITS FALSE NEIGHBOUR: 'it returns false'. Refute it at one input. -/
def fnNetLeadersWrong : ChangeSpec := { name := "fnNetLeaders", fn := fun _ => fun
  | [d1, d2] => { results := [.lit (.bool false)], args := [d1, d2] }
  | _ => none }
def FnNetLeadersWrongFalsely : Prop := fnNetLeadersRow.holds Tryz.pinned (OpenSpec.ofChange fnNetLeadersWrong)

/-- 'laws.FnNetOwn': WHATEVER THE INPUT: true; the input reads as it did. -/
def fnNetOwnSpec : ChangeSpec := { name := "fnNetOwn", fn := fun _ => fun
  | [d1, d2] => { results := [.lit (.bool true)], args := [d1, d2] }
  | _ => none }
def fnNetOwnRow : OpenClaim := { program := "ytjikgjdicpggkaagreat", sum := "1247353aff7bec767c0a828730c54f0855c20f8b4b30e7fea2a24471dc0bb552", func := "pub-comitia/laws.FnNetOwn", spec := "fnNetOwn", unfollowed := true, recurses := true, named := ["encoding/binary.LittleEndian"], apart := false }
def FnNetOwnSaid : Prop := fnNetOwnRow.holds Tryz.pinned (OpenSpec.ofChange fnNetOwnSpec)

/-- ITS FALSE NEIGHBOUR: 'it returns false'. Refute it at one input. -/
def fnNetOwnWrong : ChangeSpec := { name := "fnNetOwn", fn := fun _ => fun
  | [d1, d2] => { results := [.lit (.bool false)], args := [d1, d2] }
  | _ => none }
def FnNetOwnWrongFalsely : Prop := fnNetOwnRow.holds Tryz.pinned (OpenSpec.ofChange fnNetOwnWrong)

/-- 'laws.FnNetReads': WHATEVER THE INPUT: true; the input reads as it did. -/
def fnNetReadsSpec : ChangeSpec := { name := "fnNetReads", fn := fun _ => fun
  | [d1, d2] => { results := [.lit (.bool true)], args := [d1, d2] }
  | _ => none }
def fnNetReadsRow : OpenClaim := { program := "ytjikgjdicpggkaagreat", sum := "1247353aff7bec767c0a828730c54f0855c20f8b4b30e7fea2a24471dc0bb552", func := "pub-comitia/laws.FnNetReads", spec := "fnNetReads", unfollowed := true, recurses := true, named := ["encoding/binary.LittleEndian"], apart := false }
def FnNetReadsSaid : Prop := fnNetReadsRow.holds Tryz.pinned (OpenSpec.ofChange fnNetReadsSpec)

/-- ITS FALSE NEIGHBOUR: 'it returns false'. Refute it at one input. -/
def fnNetReadsWrong : ChangeSpec := { name := "fnNetReads", fn := fun _ => fun
  | [d1, d2] => { results := [.lit (.bool false)], args := [d1, d2] }
  | _ => none }
def FnNetReadsWrongFalsely : Prop := fnNetReadsRow.holds Tryz.pinned (OpenSpec.ofChange fnNetReadsWrong)

/-- 'laws.FnNetRestart': WHATEVER THE INPUT: true; the input reads as it did. -/
def fnNetRestartSpec : ChangeSpec := { name := "fnNetRestart", fn := fun _ => fun
  | [d1, d2, d3] => { results := [.lit (.bool true)], args := [d1, d2, d3] }
  | _ => none }
def fnNetRestartRow : OpenClaim := { program := "ytjikgjdicpggkaagreat", sum := "1247353aff7bec767c0a828730c54f0855c20f8b4b30e7fea2a24471dc0bb552", func := "pub-comitia/laws.FnNetRestart", spec := "fnNetRestart", unfollowed := true, recurses := true, named := ["encoding/binary.LittleEndian"], apart := false }
def FnNetRestartSaid : Prop := fnNetRestartRow.holds Tryz.pinned (OpenSpec.ofChange fnNetRestartSpec)

/-- ITS FALSE NEIGHBOUR: 'it returns false'. Refute it at one input. -/
def fnNetRestartWrong : ChangeSpec := { name := "fnNetRestart", fn := fun _ => fun
  | [d1, d2, d3] => { results := [.lit (.bool false)], args := [d1, d2, d3] }
  | _ => none }
def FnNetRestartWrongFalsely : Prop := fnNetRestartRow.holds Tryz.pinned (OpenSpec.ofChange fnNetRestartWrong)

/-- 'laws.FnNetSilent': WHATEVER THE INPUT: true; the input reads as it did. -/
def fnNetSilentSpec : ChangeSpec := { name := "fnNetSilent", fn := fun _ => fun
  | [d1, d2] => { results := [.lit (.bool true)], args := [d1, d2] }
  | _ => none }
def fnNetSilentRow : OpenClaim := { program := "ytjikgjdicpggkaagreat", sum := "1247353aff7bec767c0a828730c54f0855c20f8b4b30e7fea2a24471dc0bb552", func := "pub-comitia/laws.FnNetSilent", spec := "fnNetSilent", unfollowed := true, recurses := true, named := ["encoding/binary.LittleEndian"], apart := false }
def FnNetSilentSaid : Prop := fnNetSilentRow.holds Tryz.pinned (OpenSpec.ofChange fnNetSilentSpec)

/-- ITS FALSE NEIGHBOUR: 'it returns false'. Refute it at one input. -/
def fnNetSilentWrong : ChangeSpec := { name := "fnNetSilent", fn := fun _ => fun
  | [d1, d2] => { results := [.lit (.bool false)], args := [d1, d2] }
  | _ => none }
def FnNetSilentWrongFalsely : Prop := fnNetSilentRow.holds Tryz.pinned (OpenSpec.ofChange fnNetSilentWrong)

/-- 'laws.FnBeats': WHATEVER THE INPUT: true; the input reads as it did. -/
def fnBeatsSpec : ChangeSpec := { name := "fnBeats", fn := fun _ => fun
  | [d1, d2] => { results := [.lit (.bool true)], args := [d1, d2] }
  | _ => none }
def fnBeatsRow : OpenClaim := { program := "ytjikgjdicpggkaagreat", sum := "1247353aff7bec767c0a828730c54f0855c20f8b4b30e7fea2a24471dc0bb552", func := "pub-comitia/laws.FnBeats", spec := "fnBeats", unfollowed := true, recurses := true, named := ["encoding/binary.LittleEndian"], apart := false }
def FnBeatsSaid : Prop := fnBeatsRow.holds Tryz.pinned (OpenSpec.ofChange fnBeatsSpec)

/-- ITS FALSE NEIGHBOUR: 'it returns false'. Refute it at one input. -/
def fnBeatsWrong : ChangeSpec := { name := "fnBeats", fn := fun _ => fun
  | [d1, d2] => { results := [.lit (.bool false)], args := [d1, d2] }
  | _ => none }
def FnBeatsWrongFalsely : Prop := fnBeatsRow.holds Tryz.pinned (OpenSpec.ofChange fnBeatsWrong)

/-- 'laws.FnCampaign': WHATEVER THE INPUT: true; the input reads as it did. -/
def fnCampaignSpec : ChangeSpec := { name := "fnCampaign", fn := fun _ => fun
  | [d] => { results := [.lit (.bool true)], args := [d] }
  | _ => none }
def fnCampaignRow : OpenClaim := { program := "ytjikgjdicpggkaagreat", sum := "1247353aff7bec767c0a828730c54f0855c20f8b4b30e7fea2a24471dc0bb552", func := "pub-comitia/laws.FnCampaign", spec := "fnCampaign", unfollowed := true, recurses := true, named := ["encoding/binary.LittleEndian"], apart := false }
def FnCampaignSaid : Prop := fnCampaignRow.holds Tryz.pinned (OpenSpec.ofChange fnCampaignSpec)

/-- ITS FALSE NEIGHBOUR: 'it returns false'. Refute it at one input. -/
def fnCampaignWrong : ChangeSpec := { name := "fnCampaign", fn := fun _ => fun
  | [d] => { results := [.lit (.bool false)], args := [d] }
  | _ => none }
def FnCampaignWrongFalsely : Prop := fnCampaignRow.holds Tryz.pinned (OpenSpec.ofChange fnCampaignWrong)

/-- 'laws.FnCommits': WHATEVER THE INPUT: true; the input reads as it did. -/
def fnCommitsSpec : ChangeSpec := { name := "fnCommits", fn := fun _ => fun
  | [d1, d2, d3] => { results := [.lit (.bool true)], args := [d1, d2, d3] }
  | _ => none }
def fnCommitsRow : OpenClaim := { program := "ytjikgjdicpggkaagreat", sum := "1247353aff7bec767c0a828730c54f0855c20f8b4b30e7fea2a24471dc0bb552", func := "pub-comitia/laws.FnCommits", spec := "fnCommits", unfollowed := true, recurses := true, named := ["encoding/binary.LittleEndian"], apart := false }
def FnCommitsSaid : Prop := fnCommitsRow.holds Tryz.pinned (OpenSpec.ofChange fnCommitsSpec)

/-- ITS FALSE NEIGHBOUR: 'it returns false'. Refute it at one input. -/
def fnCommitsWrong : ChangeSpec := { name := "fnCommits", fn := fun _ => fun
  | [d1, d2, d3] => { results := [.lit (.bool false)], args := [d1, d2, d3] }
  | _ => none }
def FnCommitsWrongFalsely : Prop := fnCommitsRow.holds Tryz.pinned (OpenSpec.ofChange fnCommitsWrong)

/-- 'laws.FnHeartbeat': WHATEVER THE INPUT: true; the input reads as it did. -/
def fnHeartbeatSpec : ChangeSpec := { name := "fnHeartbeat", fn := fun _ => fun
  | [d1, d2, d3, d4, d5] => { results := [.lit (.bool true)], args := [d1, d2, d3, d4, d5] }
  | _ => none }
def fnHeartbeatRow : OpenClaim := { program := "ytjikgjdicpggkaagreat", sum := "1247353aff7bec767c0a828730c54f0855c20f8b4b30e7fea2a24471dc0bb552", func := "pub-comitia/laws.FnHeartbeat", spec := "fnHeartbeat", unfollowed := true, recurses := true, named := ["encoding/binary.LittleEndian"], apart := false }
def FnHeartbeatSaid : Prop := fnHeartbeatRow.holds Tryz.pinned (OpenSpec.ofChange fnHeartbeatSpec)

/-- ITS FALSE NEIGHBOUR: 'it returns false'. Refute it at one input. -/
def fnHeartbeatWrong : ChangeSpec := { name := "fnHeartbeat", fn := fun _ => fun
  | [d1, d2, d3, d4, d5] => { results := [.lit (.bool false)], args := [d1, d2, d3, d4, d5] }
  | _ => none }
def FnHeartbeatWrongFalsely : Prop := fnHeartbeatRow.holds Tryz.pinned (OpenSpec.ofChange fnHeartbeatWrong)

/-- 'laws.FnLeads': WHATEVER THE INPUT: true; the input reads as it did. -/
def fnLeadsSpec : ChangeSpec := { name := "fnLeads", fn := fun _ => fun
  | [d] => { results := [.lit (.bool true)], args := [d] }
  | _ => none }
def fnLeadsRow : OpenClaim := { program := "ytjikgjdicpggkaagreat", sum := "1247353aff7bec767c0a828730c54f0855c20f8b4b30e7fea2a24471dc0bb552", func := "pub-comitia/laws.FnLeads", spec := "fnLeads", unfollowed := true, recurses := true, named := ["encoding/binary.LittleEndian"], apart := false }
def FnLeadsSaid : Prop := fnLeadsRow.holds Tryz.pinned (OpenSpec.ofChange fnLeadsSpec)

/-- ITS FALSE NEIGHBOUR: 'it returns false'. Refute it at one input. -/
def fnLeadsWrong : ChangeSpec := { name := "fnLeads", fn := fun _ => fun
  | [d] => { results := [.lit (.bool false)], args := [d] }
  | _ => none }
def FnLeadsWrongFalsely : Prop := fnLeadsRow.holds Tryz.pinned (OpenSpec.ofChange fnLeadsWrong)

/-- 'laws.FnLoses': WHATEVER THE INPUT: true; the input reads as it did. -/
def fnLosesSpec : ChangeSpec := { name := "fnLoses", fn := fun _ => fun
  | [d] => { results := [.lit (.bool true)], args := [d] }
  | _ => none }
def fnLosesRow : OpenClaim := { program := "ytjikgjdicpggkaagreat", sum := "1247353aff7bec767c0a828730c54f0855c20f8b4b30e7fea2a24471dc0bb552", func := "pub-comitia/laws.FnLoses", spec := "fnLoses", unfollowed := true, recurses := true, named := ["encoding/binary.LittleEndian"], apart := false }
def FnLosesSaid : Prop := fnLosesRow.holds Tryz.pinned (OpenSpec.ofChange fnLosesSpec)

/-- ITS FALSE NEIGHBOUR: 'it returns false'. Refute it at one input. -/
def fnLosesWrong : ChangeSpec := { name := "fnLoses", fn := fun _ => fun
  | [d] => { results := [.lit (.bool false)], args := [d] }
  | _ => none }
def FnLosesWrongFalsely : Prop := fnLosesRow.holds Tryz.pinned (OpenSpec.ofChange fnLosesWrong)

/- THE SECOND FORM. 'bulk': how many values and letters a reading holds, each counted each time it is reached (what is shared counts as often as it is met; a slice's spare places count too). A statement '..UptoSaid' is the law's where the arguments, and the package variables that the reading takes, are together of bulk at most 1048576: NARROWER than '..Said'. Prove '..Said' where nothing that the law and all that it calls make is longer than what came in: it says more and counts as full. Else prove '..UptoSaid'. A law counts once. -/
mutual
def uptoBulk {H : Type} : DataW H → Nat
  | .lit (.string bytes) => bytes.length + 1
  | .lit _ => 1
  | .nil => 1
  | .ptr d => uptoBulk d + 1
  | .slice elems spare => uptoBulkAll elems + uptoBulkAll spare + 1
  | .agg parts => uptoBulkAll parts + 1
  | .iface _ d => uptoBulk d + 1
  | .map entries => uptoBulkEntries entries + 1
  | .held _ => 1
def uptoBulkAll {H : Type} : List (DataW H) → Nat
  | [] => 0
  | d :: r => uptoBulk d + uptoBulkAll r
def uptoBulkEntries {H : Type} : List (Lit × DataW H) → Nat
  | [] => 0
  | x :: r => uptoBulkEntry x + uptoBulkEntries r
def uptoBulkEntry {H : Type} : Lit × DataW H → Nat
  | (.string bytes, d) => bytes.length + uptoBulk d + 1
  | (_, d) => uptoBulk d + 1
 end
def uptoSmall : (H : Type) → List (DataW H) → Bool := fun _ ds => decide (uptoBulkAll ds ≤ 1048576)
def OpenSpec.upto (s : _root_.Go.ChangeSpec) : _root_.Go.OpenSpec := { _root_.Go.OpenSpec.ofChange s with cond := some uptoSmall }

/-- 'laws.FnTransfer', WHERE WHAT IT READS IS OF BULK AT MOST 1048576: true; the input reads as it did. -/
def fnTransferUptoRow : OpenClaim := { program := "ytjikgjdicpggkaagreat", sum := "1247353aff7bec767c0a828730c54f0855c20f8b4b30e7fea2a24471dc0bb552", func := "pub-comitia/laws.FnTransfer", spec := "fnTransfer", unfollowed := true, recurses := true, named := ["encoding/binary.LittleEndian"], apart := false, narrowed := true }
def FnTransferUptoSaid : Prop := fnTransferUptoRow.holds Tryz.pinned (OpenSpec.upto fnTransferSpec)

/-- 'laws.FnVote', WHERE WHAT IT READS IS OF BULK AT MOST 1048576: true; the input reads as it did. -/
def fnVoteUptoRow : OpenClaim := { program := "ytjikgjdicpggkaagreat", sum := "1247353aff7bec767c0a828730c54f0855c20f8b4b30e7fea2a24471dc0bb552", func := "pub-comitia/laws.FnVote", spec := "fnVote", unfollowed := true, recurses := true, named := ["encoding/binary.LittleEndian"], apart := false, narrowed := true }
def FnVoteUptoSaid : Prop := fnVoteUptoRow.holds Tryz.pinned (OpenSpec.upto fnVoteSpec)

/-- 'laws.FnNetVotes', WHERE WHAT IT READS IS OF BULK AT MOST 1048576: true; the input reads as it did. -/
def fnNetVotesUptoRow : OpenClaim := { program := "ytjikgjdicpggkaagreat", sum := "1247353aff7bec767c0a828730c54f0855c20f8b4b30e7fea2a24471dc0bb552", func := "pub-comitia/laws.FnNetVotes", spec := "fnNetVotes", unfollowed := true, recurses := true, named := ["encoding/binary.LittleEndian"], apart := false, narrowed := true }
def FnNetVotesUptoSaid : Prop := fnNetVotesUptoRow.holds Tryz.pinned (OpenSpec.upto fnNetVotesSpec)

/-- 'laws.FnNetApplied', WHERE WHAT IT READS IS OF BULK AT MOST 1048576: true; the input reads as it did. -/
def fnNetAppliedUptoRow : OpenClaim := { program := "ytjikgjdicpggkaagreat", sum := "1247353aff7bec767c0a828730c54f0855c20f8b4b30e7fea2a24471dc0bb552", func := "pub-comitia/laws.FnNetApplied", spec := "fnNetApplied", unfollowed := true, recurses := true, named := ["encoding/binary.LittleEndian"], apart := false, narrowed := true }
def FnNetAppliedUptoSaid : Prop := fnNetAppliedUptoRow.holds Tryz.pinned (OpenSpec.upto fnNetAppliedSpec)

/-- 'laws.FnNetDouble', WHERE WHAT IT READS IS OF BULK AT MOST 1048576: true; the input reads as it did. -/
def fnNetDoubleUptoRow : OpenClaim := { program := "ytjikgjdicpggkaagreat", sum := "1247353aff7bec767c0a828730c54f0855c20f8b4b30e7fea2a24471dc0bb552", func := "pub-comitia/laws.FnNetDouble", spec := "fnNetDouble", unfollowed := true, recurses := true, named := ["encoding/binary.LittleEndian"], apart := false, narrowed := true }
def FnNetDoubleUptoSaid : Prop := fnNetDoubleUptoRow.holds Tryz.pinned (OpenSpec.upto fnNetDoubleSpec)

/-- 'laws.FnNetLeaders', WHERE WHAT IT READS IS OF BULK AT MOST 1048576: true; the input reads as it did. -/
def fnNetLeadersUptoRow : OpenClaim := { program := "ytjikgjdicpggkaagreat", sum := "1247353aff7bec767c0a828730c54f0855c20f8b4b30e7fea2a24471dc0bb552", func := "pub-comitia/laws.FnNetLeaders", spec := "fnNetLeaders", unfollowed := true, recurses := true, named := ["encoding/binary.LittleEndian"], apart := false, narrowed := true }
def FnNetLeadersUptoSaid : Prop := fnNetLeadersUptoRow.holds Tryz.pinned (OpenSpec.upto fnNetLeadersSpec)

/-- 'laws.FnNetOwn', WHERE WHAT IT READS IS OF BULK AT MOST 1048576: true; the input reads as it did. -/
def fnNetOwnUptoRow : OpenClaim := { program := "ytjikgjdicpggkaagreat", sum := "1247353aff7bec767c0a828730c54f0855c20f8b4b30e7fea2a24471dc0bb552", func := "pub-comitia/laws.FnNetOwn", spec := "fnNetOwn", unfollowed := true, recurses := true, named := ["encoding/binary.LittleEndian"], apart := false, narrowed := true }
def FnNetOwnUptoSaid : Prop := fnNetOwnUptoRow.holds Tryz.pinned (OpenSpec.upto fnNetOwnSpec)

/-- 'laws.FnNetReads', WHERE WHAT IT READS IS OF BULK AT MOST 1048576: true; the input reads as it did. -/
def fnNetReadsUptoRow : OpenClaim := { program := "ytjikgjdicpggkaagreat", sum := "1247353aff7bec767c0a828730c54f0855c20f8b4b30e7fea2a24471dc0bb552", func := "pub-comitia/laws.FnNetReads", spec := "fnNetReads", unfollowed := true, recurses := true, named := ["encoding/binary.LittleEndian"], apart := false, narrowed := true }
def FnNetReadsUptoSaid : Prop := fnNetReadsUptoRow.holds Tryz.pinned (OpenSpec.upto fnNetReadsSpec)

/-- 'laws.FnNetRestart', WHERE WHAT IT READS IS OF BULK AT MOST 1048576: true; the input reads as it did. -/
def fnNetRestartUptoRow : OpenClaim := { program := "ytjikgjdicpggkaagreat", sum := "1247353aff7bec767c0a828730c54f0855c20f8b4b30e7fea2a24471dc0bb552", func := "pub-comitia/laws.FnNetRestart", spec := "fnNetRestart", unfollowed := true, recurses := true, named := ["encoding/binary.LittleEndian"], apart := false, narrowed := true }
def FnNetRestartUptoSaid : Prop := fnNetRestartUptoRow.holds Tryz.pinned (OpenSpec.upto fnNetRestartSpec)

/-- 'laws.FnNetSilent', WHERE WHAT IT READS IS OF BULK AT MOST 1048576: true; the input reads as it did. -/
def fnNetSilentUptoRow : OpenClaim := { program := "ytjikgjdicpggkaagreat", sum := "1247353aff7bec767c0a828730c54f0855c20f8b4b30e7fea2a24471dc0bb552", func := "pub-comitia/laws.FnNetSilent", spec := "fnNetSilent", unfollowed := true, recurses := true, named := ["encoding/binary.LittleEndian"], apart := false, narrowed := true }
def FnNetSilentUptoSaid : Prop := fnNetSilentUptoRow.holds Tryz.pinned (OpenSpec.upto fnNetSilentSpec)

/-- 'laws.FnBeats', WHERE WHAT IT READS IS OF BULK AT MOST 1048576: true; the input reads as it did. -/
def fnBeatsUptoRow : OpenClaim := { program := "ytjikgjdicpggkaagreat", sum := "1247353aff7bec767c0a828730c54f0855c20f8b4b30e7fea2a24471dc0bb552", func := "pub-comitia/laws.FnBeats", spec := "fnBeats", unfollowed := true, recurses := true, named := ["encoding/binary.LittleEndian"], apart := false, narrowed := true }
def FnBeatsUptoSaid : Prop := fnBeatsUptoRow.holds Tryz.pinned (OpenSpec.upto fnBeatsSpec)

/-- 'laws.FnCampaign', WHERE WHAT IT READS IS OF BULK AT MOST 1048576: true; the input reads as it did. -/
def fnCampaignUptoRow : OpenClaim := { program := "ytjikgjdicpggkaagreat", sum := "1247353aff7bec767c0a828730c54f0855c20f8b4b30e7fea2a24471dc0bb552", func := "pub-comitia/laws.FnCampaign", spec := "fnCampaign", unfollowed := true, recurses := true, named := ["encoding/binary.LittleEndian"], apart := false, narrowed := true }
def FnCampaignUptoSaid : Prop := fnCampaignUptoRow.holds Tryz.pinned (OpenSpec.upto fnCampaignSpec)

/-- 'laws.FnCommits', WHERE WHAT IT READS IS OF BULK AT MOST 1048576: true; the input reads as it did. -/
def fnCommitsUptoRow : OpenClaim := { program := "ytjikgjdicpggkaagreat", sum := "1247353aff7bec767c0a828730c54f0855c20f8b4b30e7fea2a24471dc0bb552", func := "pub-comitia/laws.FnCommits", spec := "fnCommits", unfollowed := true, recurses := true, named := ["encoding/binary.LittleEndian"], apart := false, narrowed := true }
def FnCommitsUptoSaid : Prop := fnCommitsUptoRow.holds Tryz.pinned (OpenSpec.upto fnCommitsSpec)

/-- 'laws.FnHeartbeat', WHERE WHAT IT READS IS OF BULK AT MOST 1048576: true; the input reads as it did. -/
def fnHeartbeatUptoRow : OpenClaim := { program := "ytjikgjdicpggkaagreat", sum := "1247353aff7bec767c0a828730c54f0855c20f8b4b30e7fea2a24471dc0bb552", func := "pub-comitia/laws.FnHeartbeat", spec := "fnHeartbeat", unfollowed := true, recurses := true, named := ["encoding/binary.LittleEndian"], apart := false, narrowed := true }
def FnHeartbeatUptoSaid : Prop := fnHeartbeatUptoRow.holds Tryz.pinned (OpenSpec.upto fnHeartbeatSpec)

/-- 'laws.FnLeads', WHERE WHAT IT READS IS OF BULK AT MOST 1048576: true; the input reads as it did. -/
def fnLeadsUptoRow : OpenClaim := { program := "ytjikgjdicpggkaagreat", sum := "1247353aff7bec767c0a828730c54f0855c20f8b4b30e7fea2a24471dc0bb552", func := "pub-comitia/laws.FnLeads", spec := "fnLeads", unfollowed := true, recurses := true, named := ["encoding/binary.LittleEndian"], apart := false, narrowed := true }
def FnLeadsUptoSaid : Prop := fnLeadsUptoRow.holds Tryz.pinned (OpenSpec.upto fnLeadsSpec)

/-- 'laws.FnLoses', WHERE WHAT IT READS IS OF BULK AT MOST 1048576: true; the input reads as it did. -/
def fnLosesUptoRow : OpenClaim := { program := "ytjikgjdicpggkaagreat", sum := "1247353aff7bec767c0a828730c54f0855c20f8b4b30e7fea2a24471dc0bb552", func := "pub-comitia/laws.FnLoses", spec := "fnLoses", unfollowed := true, recurses := true, named := ["encoding/binary.LittleEndian"], apart := false, narrowed := true }
def FnLosesUptoSaid : Prop := fnLosesUptoRow.holds Tryz.pinned (OpenSpec.upto fnLosesSpec)

end Rows
end Go.Proofs.YtjikgjdicpggkaaGreat
