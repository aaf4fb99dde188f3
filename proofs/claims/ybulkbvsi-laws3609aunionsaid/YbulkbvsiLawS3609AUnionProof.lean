/-
  PROOF of LawS3609AUnionSaid: the walk of YbulkbvsiLaws, lifted to the row.
-/
import Derived.Test.YbulkbvsiLaws
import Derived.WalkKit
import Derived.ProofKit
import Derived.OpenShut
import Derived.ShutString
import Derived.ChangeOld
import Derived.SliceStrings
import Derived.Deep.Grids
import Derived.Below
namespace Go.Proofs.Ybulkbvsi.lawS3609AUnion
open Go.ChangeShapes Go.WideShapes Go.ChangeAt Go.RowKit
open Go.ChangeMaps (open_string shut_string)
set_option linter.unusedVariables false

theorem own : ownKnob Yba.prog.godebug = none := by kernel_rfl
theorem laidOut : laidOutB Yba.prog = true := by kernel_rfl

theorem lies_of {w : World} {x : Addr} {n cap : Nat} {v : Nat → Value} (hl : n ≤ cap) (hc : ∀ i, i < cap → w.cell? (x.add i) = some (v i)) : Lies w (some x) n v := by
  by_cases h0 : n = 0
  · exact .inl h0
  · obtain ⟨b, o, sp⟩ := x
    have hs : sp = none := by simpa [Addr.add] using World.cell?_spot (hc 0 (by omega))
    subst hs
    refine .inr ⟨b, o, rfl, World.block_lt_of_cell? _ _ (hc 0 (by omega)), fun i hi => ?_⟩
    have := hc i (by omega)
    rwa [Addr.add_lit] at this

set_option maxRecDepth 100000 in
theorem lifted (os : Os) (started : os.Started) (H : Type) (enc : TypeId × Value → H) :
    ReturnsInHanded {} Yba.checked os 4 .any (Rows.lawS3609AUnionSpec.pre6 enc Yba.prog Yba.f4 Rows.lawS3609AUnionRow.domain false) (Rows.lawS3609AUnionSpec.post enc Yba.prog Yba.f4 false true false false) := by
  refine returnsInHanded_of_change (C := Yba.checked) own started (by kernel_rfl) Yba.func4
    (ChangeSpec.witness6 (enc := enc) (C := Yba.checked) false ⟨#[], #[.slice none 0 0, .slice none 0 0, .slice none 0 0, .slice none 0 0, .int .u64 0, .int .u64 0], []⟩ 8 (by kernel_rfl) (by kernel_rfl) (by kernel_rfl) (by kernel_rfl)) ?_
  intro W base args ds gs before hval0 hW hcnd _
  have hval : ∀ (j : Nat) t v, Yba.f4.params[j]? = some t → args[j]? = some v → Value.okWide Yba.prog W .any base t v := hval0
  have hW' := hW
  obtain ⟨p, q, hA0, hV, rfl, hfz, hnd⟩ := hW
  have hA : DataW.TrodAll enc Yba.prog W 0 (fun _ => true) true Yba.f4.params.toList args.toList ds p := hA0
  rw [Yba.params4] at hA hval
  obtain ⟨v0, vs0, d0, ds0, p0, q0, hargs, rfl, rfl, h0, r0⟩ := trodAll_cons hA
  obtain ⟨v1, vs1, d1, ds1, p1, q1, rfl, rfl, rfl, h1, r1⟩ := trodAll_cons r0
  obtain ⟨v2, vs2, d2, ds2, p2, q2, rfl, rfl, rfl, h2, r2⟩ := trodAll_cons r1
  obtain ⟨v3, vs3, d3, ds3, p3, q3, rfl, rfl, rfl, h3, r3⟩ := trodAll_cons r2
  obtain ⟨v4, vs4, d4, ds4, p4, q4, rfl, rfl, rfl, h4, r4⟩ := trodAll_cons r3
  obtain ⟨v5, vs5, d5, ds5, p5, q5, rfl, rfl, rfl, h5, r5⟩ := trodAll_cons r4
  obtain ⟨rfl, rfl, rfl⟩ := trodAll_nil r5
  obtain rfl : args = #[v0, v1, v2, v3, v4, v5] := by cases args; simp_all
  obtain ⟨rfl, rfl⟩ := trodVars_none hV
  obtain ⟨a0, len0, cap0, rfl⟩ := okWide_slice Yba.underlying22 (hval 0 22 v0 rfl rfl)
  obtain ⟨a1, len1, cap1, rfl⟩ := okWide_slice Yba.underlying23 (hval 1 23 v1 rfl rfl)
  obtain ⟨a2, len2, cap2, rfl⟩ := okWide_slice Yba.underlying24 (hval 2 24 v2 rfl rfl)
  obtain ⟨a3, len3, cap3, rfl⟩ := okWide_slice Yba.underlying24 (hval 3 24 v3 rfl rfl)
  obtain ⟨a4, rfl, rfl, rfl, w4⟩ := open_int Yba.underlying25 (hval 4 25 v4 rfl rfl) h4
  obtain ⟨a5, rfl, rfl, rfl, w5⟩ := open_int Yba.underlying25 (hval 5 25 v5 rfl rfl) h5
  have k0 := h0
  have lt0 : ∀ x ∈ p0, x.block < W.heap.size := by obtain ⟨m, hm⟩ := k0; exact DataW.trod_lt m _ _ _ hm
  have k1 := h1
  have lt1 : ∀ x ∈ p1, x.block < W.heap.size := by obtain ⟨m, hm⟩ := k1; exact DataW.trod_lt m _ _ _ hm
  have k2 := h2
  have lt2 : ∀ x ∈ p2, x.block < W.heap.size := by obtain ⟨m, hm⟩ := k2; exact DataW.trod_lt m _ _ _ hm
  have k3 := h3
  have lt3 : ∀ x ∈ p3, x.block < W.heap.size := by obtain ⟨m, hm⟩ := k3; exact DataW.trod_lt m _ _ _ hm
  obtain ⟨s0, m0, l0⟩ : ∃ s : Nat → ByteArray, len0 ≤ maxLen ∧ Lies W a0 len0 (fun i => .string (s i)) := by
    obtain ⟨fuel, hf⟩ := h0
    rcases open_strings Yba.underlying22 Yba.underlying9 (by kernel_rfl) hf with ⟨hcs, _⟩ | ⟨x, l, c, ss, hcs, _, hl, hm, hz, _, hcell, _⟩
    · simp [Value.cells] at hcs
      obtain ⟨rfl, rfl, rfl⟩ := hcs
      exact ⟨fun _ => ByteArray.empty, Nat.zero_le _, .inl rfl⟩
    · simp [Value.cells] at hcs
      obtain ⟨rfl, rfl, rfl⟩ := hcs
      have hz' : ss.length = cap0 := by simpa using hz
      exact ⟨fun i => ss.getD i ByteArray.empty, Nat.le_trans hl hm, lies_of hl (fun i hi => hcell i (by omega))⟩
  obtain ⟨s2, m2, l2⟩ : ∃ s : Nat → Bool, len2 ≤ maxLen ∧ Lies W a2 len2 (fun i => .bool (s i)) := by
    obtain ⟨fuel, hf⟩ := h2
    rcases Go.Deep.open_bools Yba.underlying24 Yba.underlying4 (by kernel_rfl) hf with ⟨hcs, _⟩ | ⟨x, l, c, B, hcs, _, hl, hm, _, hcell⟩
    · simp [Value.cells] at hcs
      obtain ⟨rfl, rfl, rfl⟩ := hcs
      exact ⟨fun _ => false, Nat.zero_le _, .inl rfl⟩
    · simp [Value.cells] at hcs
      obtain ⟨rfl, rfl, rfl⟩ := hcs
      exact ⟨B, Nat.le_trans hl hm, lies_of hl hcell⟩
  obtain ⟨s3, m3, l3⟩ : ∃ s : Nat → Bool, len3 ≤ maxLen ∧ Lies W a3 len3 (fun i => .bool (s i)) := by
    obtain ⟨fuel, hf⟩ := h3
    rcases Go.Deep.open_bools Yba.underlying24 Yba.underlying4 (by kernel_rfl) hf with ⟨hcs, _⟩ | ⟨x, l, c, B, hcs, _, hl, hm, _, hcell⟩
    · simp [Value.cells] at hcs
      obtain ⟨rfl, rfl, rfl⟩ := hcs
      exact ⟨fun _ => false, Nat.zero_le _, .inl rfl⟩
    · simp [Value.cells] at hcs
      obtain ⟨rfl, rfl, rfl⟩ := hcs
      exact ⟨B, Nat.le_trans hl hm, lies_of hl hcell⟩
  obtain ⟨n4, rfl, hn4⟩ : ∃ n : Nat, a4 = (n : Int) ∧ n < 18446744073709551616 := by
    have := bounds_u64 w4
    exact ⟨a4.toNat, by omega, by omega⟩
  obtain ⟨n5, rfl, hn5⟩ : ∃ n : Nat, a5 = (n : Int) ∧ n < 18446744073709551616 := by
    have := bounds_u64 w5
    exact ⟨a5.toNat, by omega, by omega⟩
  unfold maxLen at m0 m2 m3
  clear hA0 hval0
  refine (union_any a0 len0 cap0 s0 a1 len1 cap1 a2 len2 cap2 s2 a3 len3 cap3 s3 n4 n5 W (by omega) (by omega) (by omega) hn4 hn5 l0 l2 l3).mono fun e W' ⟨he, bel⟩ => ?_
  subst he
  exact ⟨_, rfl, _, _, _, [], _, [], hW', trodAll_mk1 (shut_bool Yba.underlying4 _), (trodAll_cons_mk (Below.trod laidOut (by kernel_rfl) (of_decide_eq_true (by kernel_rfl)) k0 bel lt0) (trodAll_cons_mk (Below.trod laidOut (by kernel_rfl) (of_decide_eq_true (by kernel_rfl)) k1 bel lt1) (trodAll_cons_mk (Below.trod laidOut (by kernel_rfl) (of_decide_eq_true (by kernel_rfl)) k2 bel lt2) (trodAll_cons_mk (Below.trod laidOut (by kernel_rfl) (of_decide_eq_true (by kernel_rfl)) k3 bel lt3) (trodAll_cons_mk (shut_int Yba.underlying25 w4) (trodAll_cons_mk (shut_int Yba.underlying25 w5) trodAll_mk0)))))), rfl, bel.frame _, fun h => by cases h⟩

theorem over : Rows.lawS3609AUnionRow.holds Yba.pinned (OpenSpec.ofChange Rows.lawS3609AUnionSpec) :=
  OpenClaim.holds_of_wide 4 Yba.f4 rfl rfl rfl rfl rfl rfl rfl ⟨rfl, rfl, rfl, rfl, rfl⟩ rfl rfl rfl rfl rfl (by kernel_rfl) Yba.func4 (by kernel_rfl)
    (of_decide_eq_true (by kernel_rfl)) (by unfold Func.isWrapper; first | (rw [if_pos (by decide +kernel)]; kernel_rfl) | (rw [if_neg (by decide +kernel)]; exact ⟨rfl, rfl⟩))
    (fun os started H enc _ => lifted os started H enc)

/-- THE STATEMENT. -/
theorem proved : Rows.LawS3609AUnionSaid := over
end Go.Proofs.Ybulkbvsi.lawS3609AUnion
