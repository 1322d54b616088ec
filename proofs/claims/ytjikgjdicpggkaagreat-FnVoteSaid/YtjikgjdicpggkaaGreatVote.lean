/-
  The law FnVote returns true whatever setup, sender, term, index and term of the last entry it is handed, and all that was in memory stays as it was.
  Conditions: none beyond the row's own.
-/
import Derived.Test.YtjikgjdicpggkaaGreatY65
import Derived.Test.YtjikgjdicpggkaaGreatVFacts
import Derived.ProofKit
import Derived.ShutString
import Derived.OpenShut
import Derived.Carry
namespace Go.Proofs.YtjikgjdicpggkaaGreat
open Go.ChangeShapes Go.WideShapes Go.ChangeAt Go.RowKit
set_option linter.all false

set_option maxRecDepth 100000 in
theorem vLifted (os : Os) (started : os.Started) (H : Type) (enc : TypeId × Value → H) :
    ReturnsInHanded {} Tryz.checked os 4 .any (Rows.fnVoteSpec.pre6 enc Tryz.prog Tryz.f4 Rows.fnVoteRow.domain false) (Rows.fnVoteSpec.post enc Tryz.prog Tryz.f4 false true false false) := by
  refine Go.Sx.handed (K := Tryz.checked) vOwn started vInit Tryz.func4 Go.Sx.pos_heap
    (ChangeSpec.witness6 (enc := enc) (C := Tryz.checked) false ⟨#[], #[.agg #[.int .u64 0, .int .i64 0, .int .i64 0, .slice none 0 0, .bool false, .bool false, .bool false, .bool false, .bool false, .int .u64 0, .int .u64 0, .int .u64 0, .int .i64 0, .string ⟨#[]⟩, .int .u64 0, .int .u64 0, .slice none 0 0, .slice none 0 0, .slice none 0 0, .slice none 0 0, .bool false, .slice none 0 0, .int .u64 0, .int .u64 0, .int .u64 0, .int .u64 0], .int .u64 0, .int .u64 0, .int .u64 0, .int .u64 0], []⟩ 8 (by kernel_rfl) (by kernel_rfl) (by kernel_rfl) (by kernel_rfl)) ?_
  intro W base args ds gs before hpos hval0 hW
  have hval : ∀ (j : Nat) t v, Tryz.f4.params[j]? = some t → args[j]? = some v → Value.okWide Tryz.prog W .any base t v := hval0
  have hW' := hW
  obtain ⟨p, q, hA0, hV, rfl, hfz, hnd⟩ := hW
  have hA : DataW.TrodAll enc Tryz.prog W 0 (fun _ => true) true Tryz.f4.params.toList args.toList ds p := hA0
  rw [Tryz.params4] at hA hval
  obtain ⟨v0, vs0, d0, ds0, p0, q0, hargs, rfl, rfl, h0, r0⟩ := trodAll_cons hA
  obtain ⟨v1, vs1, d1, ds1, p1, q1, rfl, rfl, rfl, h1, r1⟩ := trodAll_cons r0
  obtain ⟨v2, vs2, d2, ds2, p2, q2, rfl, rfl, rfl, h2, r2⟩ := trodAll_cons r1
  obtain ⟨v3, vs3, d3, ds3, p3, q3, rfl, rfl, rfl, h3, r3⟩ := trodAll_cons r2
  obtain ⟨v4, vs4, d4, ds4, p4, q4, rfl, rfl, rfl, h4, r4⟩ := trodAll_cons r3
  obtain ⟨rfl, rfl, rfl⟩ := trodAll_nil r4
  obtain rfl : args = #[v0, v1, v2, v3, v4] := by cases args; simp_all
  obtain ⟨rfl, rfl⟩ := trodVars_none hV
  have lt0 : ∀ x ∈ p0, x.block < W.heap.size := by obtain ⟨m, hm⟩ := h0; exact DataW.trod_lt m _ _ _ hm
  obtain ⟨s, rfl, hw, hr⟩ := Go.Sx.open33 (hval 0 33 v0 rfl rfl) h0 (fun b off hb => hfz b off (by simp only [List.mem_append]; exact Or.inl (Or.inl hb)))
  obtain ⟨fr, rfl, rfl, rfl, w1⟩ := open_int Tryz.underlying22 (hval 1 22 v1 rfl rfl) h1
  obtain ⟨tm, rfl, rfl, rfl, w2⟩ := open_int Tryz.underlying22 (hval 2 22 v2 rfl rfl) h2
  obtain ⟨mx, rfl, rfl, rfl, w3⟩ := open_int Tryz.underlying22 (hval 3 22 v3 rfl rfl) h3
  obtain ⟨ml, rfl, rfl, rfl, w4⟩ := open_int Tryz.underlying22 (hval 4 22 v4 rfl rfl) h4
  clear hA0 hval0
  refine (Go.Sx.vt_walk (fr := fr) (tm := tm) (mx := mx) (ml := ml) hw hpos hr).mono fun e W' ⟨he, bel⟩ => ?_
  subst he
  exact ⟨_, rfl, _, _, _, [], _, [], hW', trodAll_mk1 (shut_bool Tryz.underlying4 _), (trodAll_cons_mk (Below.trod vLaid (by kernel_rfl) (of_decide_eq_true (by kernel_rfl)) h0 bel lt0) (trodAll_cons_mk (shut_int Tryz.underlying22 w1) (trodAll_cons_mk (shut_int Tryz.underlying22 w2) (trodAll_cons_mk (shut_int Tryz.underlying22 w3) (trodAll_cons_mk (shut_int Tryz.underlying22 w4) trodAll_mk0))))), rfl, bel.frame _, fun h => by cases h⟩

theorem fnVoteDone : Rows.FnVoteSaid :=
  OpenClaim.holds_of_wide 4 Tryz.f4 rfl rfl rfl rfl rfl rfl rfl ⟨rfl, rfl, rfl, rfl, rfl⟩ rfl rfl rfl rfl rfl vNamed Tryz.func4 vClosed vInst vWrap
    (fun os started H enc _ => vLifted os started H enc)
end Go.Proofs.YtjikgjdicpggkaaGreat
