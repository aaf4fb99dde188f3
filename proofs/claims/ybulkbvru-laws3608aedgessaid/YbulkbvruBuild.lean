/-
  WALKS for seat b3608a: the list of points is built.
-/
import Derived.Test.YbulkbvruFuns
namespace Go.Proofs.Ybulkbvru
open Go.ChangeShapes Go.WideShapes Go.ChangeAt Go.RowKit
set_option linter.unusedVariables false

theorem Yba.info28 : (Yba.prog.info? 28).map (fun i => (i.zero, i.size, i.bytes)) = some (some (.int .i64 0), 1, 8) := by kernel_rfl

/-- The points of the first k gaps. -/
def pts (p : Nat → Int) (k : Nat) : List Int := (List.range k).map p
theorem pts_length (p : Nat → Int) (k : Nat) : (pts p k).length = k := by simp [pts]
theorem pts_snoc (p : Nat → Int) (k : Nat) : pts p k ++ [p k] = pts p (k + 1) := by simp [pts, List.range_succ]

/-- An owned row of points. -/
theorem prow_of {w : World} {B b n cap : Nat} {p : Nat → Int} (h : w.ownsRow B 28 1 (.slice (some ⟨b, 0, none⟩) n cap) n ((pts p n).map (Value.int .i64))) : PRow w b n p := by
  rcases h.2 with ⟨h1, _⟩ | ⟨g, c, cur, hv, _, hh, _, _, _, ht⟩
  · cases h1
  · cases hv
    intro i hi
    simp only [World.cell?, hh]
    have e : (cur.toList.take (n * 1))[i]? = some (.int .i64 (p i)) := by
      rw [ht]
      simp [pts, hi]
    rw [List.getElem?_take] at e
    simp at e
    simpa using e.2

theorem lt_of_own {w : World} {B b n cap : Nat} {xs : List Value} (h : w.ownsRow B 28 1 (.slice (some ⟨b, 0, none⟩) n cap) n xs) : b < w.heap.size := by
  rcases h.2 with ⟨h1, _⟩ | ⟨g, c, cur, hv, _, hh, _⟩
  · cases h1
  · cases hv
    exact (Array.getElem?_eq_some_iff.1 hh).1

set_option maxHeartbeats 800000 in
theorem build_any (a0 : Int) (ao : Option Addr) (n c0 : Nat) (z : Nat → Int) (w : World) (hn : n ≤ 1024) (ha : -2147483648 ≤ a0 ∧ a0 ≤ 2147483647) (hz : ∀ i, 0 ≤ z i ∧ z i ≤ 65535)
    (hr : n = 0 ∨ ∃ b o, ao = some ⟨b, o, none⟩ ∧ b < w.heap.size ∧ ∀ i, i < n → w.cell? ⟨b, o + i, none⟩ = some (.int .u16 (z i))) :
    Calls Yba.prog 5 #[.int .i32 a0, .slice ao n c0] w fun e w' => e = .returned (.slice (some ⟨w.heap.size, 0, none⟩) n n) ∧ PRow w' w.heap.size n (pt a0 z) ∧ w.heap.size < w'.heap.size ∧ Below w.heap.size w w' := by
  obtain ⟨i0, hi, hz0, hz1, hz2⟩ := info_parts Yba.info28
  have HR := hide hr
  have HZ := hide hz
  have HA := hide ha
  clear hr hz
  go_enter Yba.func5, Yba.ntmps5
  go_wp2_with (at_make; refine wpList_make_own _ rfl _ _ 23 rfl w.heap.size 28 i0 (.int .i64 0) 1 Yba.underlying23 hi hz0 hz1 _ _ _ n rfl rfl (by omega) ?b2 ?b3 (Nat.le_refl _) ?_)
  case b2 => rw [hz2]; omega
  case b3 => unfold maxLen; omega
  intro w0 hown0 hgrow0
  go_wp2_with fail
  go_loopw [5, 6, 7] (fun out cur si wr => ∃ k : Nat, k ≤ n ∧ si = .int .i64 k ∧ cur = .int .i64 (pt a0 z (k - 1)) ∧ out = .slice (some ⟨w.heap.size, 0, none⟩) k n ∧
      wr.ownsRow w.heap.size 28 1 (.slice (some ⟨w.heap.size, 0, none⟩) k n) k ((pts (pt a0 z) k).map (Value.int .i64)) ∧ Below w.heap.size w wr)
    (fun _ _ si _ => n - (intOf si).toNat)
  case atStart => exact ⟨0, Nat.zero_le _, rfl, rfl, rfl, hown0, (Below.refl _ _).grown hgrow0 (Nat.le_refl _) (fun k h => by cases h)⟩
  case round =>
    obtain ⟨k, hk, rfl, rfl, rfl, hown, hb⟩ := hrel
    by_cases hlt : k < n
    · have hlt' : (k : Int) < (n : Int) := by omega
      obtain h0 | ⟨b, o, rfl, hbw, hc⟩ := HR.out
      · omega
      have hck : wr.cell? ⟨b, o + k, none⟩ = some (.int .u16 (z k)) := (hb.cell (by exact hbw)).trans (hc k hlt)
      have hzk := HZ.out k
      have hpk := pt_bound HA.out HZ.out (k - 1)
      clear hc
      cases k with
      | zero =>
        go_wp2_with (at_builtin; refine wpList_append_fits _ rfl _ _ 23 rfl w.heap.size 28 i0 1 Yba.underlying23 hi hz1 w.heap.size 0 n _ rfl (hown.alloc _) ⟨wr.heap.size, 0, none⟩ 1 1 [.int .i64 (pt a0 z 0)] rfl rfl (by intro t u ht; match t, ht with | 0, ht => simp at ht; subst ht; simp [Addr.add]) (by intro u hu; simp at hu; subst hu; rfl) (by omega) ?_; intro w1 hown1 hgrow1)
        go_roundw
        case rel => exact ⟨1, hlt, rfl, rfl, rfl, hown1, (hb.alloc hb.size _).grown hgrow1 (by simp; have := hb.size; omega) (fun k hk => by cases hk; exact Nat.le_refl _)⟩
        case measure => simp [intOf]; omega
      | succ k =>
        have hs : pts (pt a0 z) (k + 1) ++ [pt a0 z k + (z (k + 1) + 1)] = pts (pt a0 z) (k + 1 + 1) := pts_snoc (pt a0 z) (k + 1)
        have HS := hide hs
        clear hs
        simp only [Nat.add_sub_cancel] at hpk ⊢
        go_wp2_with (at_builtin; refine wpList_append_fits _ rfl _ _ 23 rfl w.heap.size 28 i0 1 Yba.underlying23 hi hz1 w.heap.size (k + 1) n _ rfl (hown.alloc _) ⟨wr.heap.size, 0, none⟩ 1 1 [.int .i64 (pt a0 z k + (z (k + 1) + 1))] rfl rfl (by intro t u ht; match t, ht with | 0, ht => simp at ht; subst ht; simp [Addr.add]) (by intro u hu; simp at hu; subst hu; rfl) (by omega) ?_; intro w1 hown1 hgrow1)
        go_roundw
        case rel => exact ⟨k + 1 + 1, hlt, by go_num, rfl, rfl, by have h := hown1; rw [← HS.out, List.map_append]; exact h, (hb.alloc hb.size _).grown hgrow1 (by simp; have := hb.size; omega) (fun k hk => by cases hk; exact Nat.le_refl _)⟩
        case measure => simp [intOf]; omega
    · obtain rfl : k = n := by omega
      have HO := hide hown
      clear hown
      go_wp2_with fail
      go_ret
      exact ⟨rfl, prow_of HO.out, lt_of_own HO.out, hb⟩
end Go.Proofs.Ybulkbvru
