/-
  The law FnHeartbeat returns true whatever setup, sender, term, commit and context it is handed, and all that was in memory stays as it was.
  Conditions: none beyond the row's own.
-/
import Derived.Test.YtjikgjdicpggkaaGreatX49
import Derived.Test.YtjikgjdicpggkaaGreatFacts
import Derived.ProofKit
import Derived.ShutString
import Derived.OpenShut
import Derived.Carry
namespace Go.Proofs.YtjikgjdicpggkaaGreat
open Go.ChangeShapes Go.WideShapes Go.ChangeAt Go.RowKit
open Go.ChangeMaps (open_string shut_string)
set_option linter.all false

set_option maxRecDepth 100000 in
theorem hbLifted (os : Os) (started : os.Started) (H : Type) (enc : TypeId × Value → H) :
    ReturnsInHanded {} Tryz.checked os 16 .any (Rows.fnHeartbeatSpec.pre6 enc Tryz.prog Tryz.f16 Rows.fnHeartbeatRow.domain false) (Rows.fnHeartbeatSpec.post enc Tryz.prog Tryz.f16 false true false false) := by
  refine Go.Sx.handed (K := Tryz.checked) hbOwn started hbInit Tryz.func16 Go.Sx.pos_heap
    (ChangeSpec.witness6 (enc := enc) (C := Tryz.checked) false ⟨#[], #[.agg #[.int .u64 0, .int .i64 0, .int .i64 0, .slice none 0 0, .bool false, .bool false, .bool false, .bool false, .bool false, .int .u64 0, .int .u64 0, .int .u64 0, .int .i64 0, .string ⟨#[]⟩, .int .u64 0, .int .u64 0, .slice none 0 0, .slice none 0 0, .slice none 0 0, .slice none 0 0, .bool false, .slice none 0 0, .int .u64 0, .int .u64 0, .int .u64 0, .int .u64 0], .int .u64 0, .int .u64 0, .int .u64 0, .string ⟨#[]⟩], []⟩ 8 (by kernel_rfl) (by kernel_rfl) (by kernel_rfl) (by kernel_rfl)) ?_
  intro W base args ds gs before hpos hval0 hW
  have hval : ∀ (j : Nat) t v, Tryz.f16.params[j]? = some t → args[j]? = some v → Value.okWide Tryz.prog W .any base t v := hval0
  have hW' := hW
  obtain ⟨p, q, hA0, hV, rfl, hfz, hnd⟩ := hW
  have hA : DataW.TrodAll enc Tryz.prog W 0 (fun _ => true) true Tryz.f16.params.toList args.toList ds p := hA0
  rw [Tryz.params16] at hA hval
  obtain ⟨v0, vs0, d0, ds0, p0, q0, hargs, rfl, rfl, h0, r0⟩ := trodAll_cons hA
  obtain ⟨v1, vs1, d1, ds1, p1, q1, rfl, rfl, rfl, h1, r1⟩ := trodAll_cons r0
  obtain ⟨v2, vs2, d2, ds2, p2, q2, rfl, rfl, rfl, h2, r2⟩ := trodAll_cons r1
  obtain ⟨v3, vs3, d3, ds3, p3, q3, rfl, rfl, rfl, h3, r3⟩ := trodAll_cons r2
  obtain ⟨v4, vs4, d4, ds4, p4, q4, rfl, rfl, rfl, h4, r4⟩ := trodAll_cons r3
  obtain ⟨rfl, rfl, rfl⟩ := trodAll_nil r4
  obtain rfl : args = #[v0, v1, v2, v3, v4] := by cases args; simp_all
  obtain ⟨rfl, rfl⟩ := trodVars_none hV
  have lt0 : ∀ x ∈ p0, x.block < W.heap.size := by obtain ⟨m, hm⟩ := h0; exact DataW.trod_lt m _ _ _ hm
  obtain ⟨s, rfl, hw, hr⟩ := Go.Sx.open33 (hval 0 33 v0 rfl rfl) h0 (fun b off hb => hfz b off (by simp only [List.mem_append]; exact Or.inl (Or.inl hb)))
  obtain ⟨fr, rfl, rfl, rfl, w1⟩ := open_int Tryz.underlying22 (hval 1 22 v1 rfl rfl) h1
  obtain ⟨tm, rfl, rfl, rfl, w2⟩ := open_int Tryz.underlying22 (hval 2 22 v2 rfl rfl) h2
  obtain ⟨cm, rfl, rfl, rfl, w3⟩ := open_int Tryz.underlying22 (hval 3 22 v3 rfl rfl) h3
  obtain ⟨sx, rfl, rfl, rfl, w4⟩ := open_string Tryz.underlying9 (hval 4 9 v4 rfl rfl) h4
  clear hA0 hval0
  refine (Go.Sx.hb_walk (fr := fr) (tm := tm) (cm := cm) (sx := sx) hw hpos hr).mono fun e W' ⟨he, bel⟩ => ?_
  subst he
  exact ⟨_, rfl, _, _, _, [], _, [], hW', trodAll_mk1 (shut_bool Tryz.underlying4 _), (trodAll_cons_mk (Below.trod hbLaid (by kernel_rfl) (of_decide_eq_true (by kernel_rfl)) h0 bel lt0) (trodAll_cons_mk (shut_int Tryz.underlying22 w1) (trodAll_cons_mk (shut_int Tryz.underlying22 w2) (trodAll_cons_mk (shut_int Tryz.underlying22 w3) (trodAll_cons_mk (shut_string Tryz.underlying9 w4) trodAll_mk0))))), rfl, bel.frame _, fun h => by cases h⟩

theorem fnHeartbeatDone : Rows.FnHeartbeatSaid :=
  OpenClaim.holds_of_wide 16 Tryz.f16 rfl rfl rfl rfl rfl rfl rfl ⟨rfl, rfl, rfl, rfl, rfl⟩ rfl rfl rfl rfl rfl hbNamed Tryz.func16 hbClosed hbInst hbWrap
    (fun os started H enc _ => hbLifted os started H enc)
end Go.Proofs.YtjikgjdicpggkaaGreat
