/-
  WALK for seat b3608a: LawS3608AEdges.
-/
import Derived.Test.YbulkbvruLaws
namespace Go.Proofs.Ybulkbvru
open Go.ChangeShapes Go.WideShapes Go.ChangeAt Go.RowKit
set_option linter.unusedVariables false

set_option maxHeartbeats 2000000 in
theorem edges_small (a0 : Int) (ao : Option Addr) (n c0 : Nat) (z : Nat → Int) (w : World) (hn : n ≤ 1024) (ha : -2147483648 ≤ a0 ∧ a0 ≤ 2147483647) (hz : ∀ i, 0 ≤ z i ∧ z i ≤ 65535) (hr : Gaps w ao n z) :
    Calls Yba.prog 4 #[.int .i32 a0, .slice ao n c0] w fun e w' => e = .returned (.bool true) ∧ Below w.heap.size w w' := by
  have hn' : (n : Int) ≤ 1024 := by omega
  go_enter Yba.func4, Yba.ntmps4
  go_wp2_with fail
  refine (build_any a0 ao n c0 z _ hn ha hz hr).mono ?_
  rintro e w1 ⟨rfl, hp, hs, hb⟩
  have HM : Hid (∀ i j, i < j → pt a0 z i < pt a0 z j) := fun i j h => pt_mono hz h
  have HBd := hide (pt_bound ha hz)
  have HE : Hid (Ed w (w1.alloc (Obj.cells #[.slice (some ⟨w.heap.size, 0, none⟩) n n] 26)) w1.heap.size n (pt a0 z)) :=
    ⟨hp.below ((Below.refl _ _).alloc (Nat.le_refl _) _) hs, by simp, by simp, by simp; omega, hb.alloc (by omega) _⟩
  clear hp hz hr hb hs
  generalize hq : pt a0 z = p at *
  clear hq
  go_wp2_with fail
  generalize w1.heap.size = s at *
  go_loopw [7] (fun si wr => ∃ k : Nat, k ≤ n ∧ si = .int .i64 k ∧ Hid (Ed w wr s n p)) (fun si _ => n - (intOf si).toNat)
  case atStart => exact ⟨0, Nat.zero_le _, rfl, HE⟩
  case round =>
    obtain ⟨k, hk, rfl, E⟩ := hrel
    clear HE
    by_cases hlt : k < n
    · have hlt' : (k : Int) < (n : Int) := by omega
      have hc := E.out.row k hlt
      have hs := E.out.set
      have hwr : IntKind.i64.wrap (p k - 1) = p k - 1 := IntWalk.i64_in _ (by have := HBd.out k; omega)
      have htm : IntKind.i64.wrap ((k : Int).tmod 2) = (k : Int).tmod 2 := IntWalk.i64_in _ (by rw [Int.tmod_eq_emod_of_nonneg (by omega)]; omega)
      go_wp2_with fail
      go_region_with (go_at_call 6; refine (has_any w.heap.size n n p (p k) wr.drew hn HM.out E.out.drew.row E.out.drew.szw).mono ?_; rintro e w3 ⟨rfl, hw3⟩; obtain ⟨E3, hc3, hs3⟩ := ed_next E.out hlt hw3; clear hw3; rw [cnt_on HM.out hlt, odd_succ])
      all_goals
        clear hc hs E
        go_simp
        go_wp2_with fail
        go_region_with (go_at_call 6; refine (has_any w.heap.size n n p (p k - 1) w3.drew hn HM.out E3.out.drew.row E3.out.drew.szw).mono ?_; rintro e w4 ⟨rfl, hw4⟩; obtain ⟨E4, hc4, hs4⟩ := ed_next E3.out hlt hw4; clear hw4; rw [cnt_under HM.out hlt, odd_tmod])
      all_goals
        clear hc3 hs3 E3
        go_simp
        go_wp2_with fail
        go_roundw
        case rel => exact ⟨k + 1, hlt, by go_num, E4⟩
        case measure => simp [intOf]; omega
    · go_wp2_with fail
      go_ret
      exact ⟨rfl, E.out.bel⟩
end Go.Proofs.Ybulkbvru
