/-
  WALKS for seat b3609a: the set and the message are made.
-/
import Derived.Test.YbulkbvsiFuns
namespace Go.Proofs.Ybulkbvsi
open Go.ChangeShapes Go.WideShapes Go.ChangeAt Go.RowKit
set_option linter.unusedVariables false

/-- A slice of one-cell elements that is read. -/
def Lies (w : World) (a : Option Addr) (n : Nat) (v : Nat → Value) : Prop := n = 0 ∨ ∃ b o, a = some ⟨b, o, none⟩ ∧ b < w.heap.size ∧ ∀ i, i < n → w.cell? ⟨b, o + i, none⟩ = some (v i)

theorem or_any (X : Nat) (y : Int) (hX : X < 18446744073709551616) (h0 : 0 ≤ y) (hy : y < 18446744073709551616) : ∃ Z : Nat, Z < 18446744073709551616 ∧ Value.int .u64 (bits .or .u64 (X : Int) y) = .int .u64 (Z : Nat) := by
  obtain ⟨Y, rfl⟩ : ∃ Y : Nat, y = (Y : Int) := ⟨y.toNat, by omega⟩
  exact ⟨X ||| Y, Nat.or_lt_two_pow (n := 64) hX (by omega), by rw [u64_or_nat X Y hX (by omega)]⟩

theorem rel_set {n k X : Nat} {y z : Int} (hX : X < 18446744073709551616) (h9 : k < 9) (hk : k < n) (h0 : 0 ≤ y) (hy : y < 18446744073709551616) (hz : z = (k : Int) + 1) :
    ∃ k' X' : Nat, k' ≤ 9 ∧ k' ≤ n ∧ X' < 18446744073709551616 ∧ Value.int .u64 (bits .or .u64 (X : Int) y) = .int .u64 (X' : Nat) ∧ Value.int .i64 z = .int .i64 (k' : Nat) ∧ True := by
  obtain ⟨Z, hZ, e⟩ := or_any X y hX h0 hy
  exact ⟨k + 1, Z, h9, hk, hZ, e, by rw [hz]; rfl, trivial⟩

set_option maxHeartbeats 400000 in
theorem set_any (a : Option Addr) (n c : Nat) (B : Nat → Bool) (hi : Nat) (w : World) (hn : n ≤ 9223372036854775807) (hh : hi < 18446744073709551616) (h : Lies w a n (fun i => .bool (B i))) :
    Calls Yba.prog 8 #[.slice a n c, .int .u64 hi] w fun e w' => ∃ X : Nat, X < 18446744073709551616 ∧ e = .returned (.int .u64 X) ∧ w' = w := by
  have H := hide h
  clear h
  go_enter Yba.func8, Yba.ntmps8
  go_wp2_with fail
  go_loopw [5, 6] (fun fv iv wr => ∃ k X : Nat, k ≤ 9 ∧ k ≤ n ∧ X < 18446744073709551616 ∧ fv = .int .u64 (X : Nat) ∧ iv = .int .i64 (k : Nat) ∧ wr = w) (fun _ iv _ => 9 - (intOf iv).toNat)
  case atStart => exact ⟨0, 0, by omega, by omega, by omega, rfl, rfl, rfl⟩
  case round =>
    obtain ⟨k, X, hk, hkn, hX, rfl, rfl, rfl⟩ := hrel
    by_cases hlt : k < n
    · by_cases h9 : k < 9
      · have hlt' : (k : Int) < (n : Int) := by omega
        obtain h0 | ⟨b, o, rfl, _, hc⟩ := H.out
        · omega
        have c := hc k hlt
        clear hc
        cases hB : B k with
        | false =>
          simp only [hB] at c
          have h9' : (k : Int) < 9 := by omega
          go_wp2_with fail
          go_roundw
          case rel => exact ⟨k + 1, X, h9, hlt, hX, rfl, by go_num, by trivial⟩
          case measure => simp [intOf]; omega
        | true =>
          simp only [hB] at c
          obtain rfl | rfl | rfl | rfl | rfl | rfl | rfl | rfl | rfl : k = 0 ∨ k = 1 ∨ k = 2 ∨ k = 3 ∨ k = 4 ∨ k = 5 ∨ k = 6 ∨ k = 7 ∨ k = 8 := by omega
          all_goals
            try rw [Nat.add_zero] at c
            go_wp2_with fail
            go_roundw
            case rel => exact rel_set hX h9 hlt (by decide) (by decide) rfl
            case measure => simp [intOf]
      · obtain rfl : k = 9 := by omega
        have hlt' : (9 : Int) < (n : Int) := by omega
        go_wp2_with fail
        go_ret
        obtain ⟨Z, hZ, e⟩ := or_any X (IntKind.u64.wrap ((hi : Int) * 512)) hX (by rw [IntKind.wrap_u64]; omega) (by rw [IntKind.wrap_u64]; omega)
        exact ⟨Z, hZ, by rw [← e]; rfl, rfl⟩
    · obtain rfl : k = n := by omega
      go_wp2_with fail
      go_ret
      obtain ⟨Z, hZ, e⟩ := or_any X (IntKind.u64.wrap ((hi : Int) * 512)) hX (by rw [IntKind.wrap_u64]; omega) (by rw [IntKind.wrap_u64]; omega)
      exact ⟨Z, hZ, by rw [← e]; rfl, rfl⟩

/-- The texts that the message holds: the first n (of nine) given ones, the others empty. -/
def tx (s : Nat → ByteArray) (n : Nat) : Nat → ByteArray := fun j => if j < n then s j else ByteArray.empty

theorem tx_set (s : Nat → ByteArray) (k j : Nat) : tx s (k + 1) j = if j = k then s k else tx s k j := by
  unfold tx
  by_cases h : j = k
  · subst h; simp
  · rw [if_neg h]
    by_cases h2 : j < k
    · rw [if_pos h2, if_pos (by omega)]
    · rw [if_neg h2, if_neg (by omega)]

theorem heap_setCell_at {w : World} {b k : Nat} {cs : Array Value} {t : TypeId} {v : Value} (h : w.heap[b]? = some (.cells cs t (0, 0))) : (w.setCell ⟨b, k, none⟩ v).heap[b]? = some (.cells (cs.setIfInBounds k v) t (0, 0)) := by
  simp only [World.setCell, Array.getElem?_modify]
  simp [h]

theorem Vals.store {w : World} {b : Nat} {s : Nat → ByteArray} {bv : Value} {k : Nat} (h : Vals w b (tx s k) bv) (hk : k < 9) : Vals (w.setCell ⟨b, k, none⟩ (.string (s k))) b (tx s (k + 1)) bv := by
  unfold Vals
  rw [heap_setCell_at h]
  simp only [tx_set]
  obtain rfl | rfl | rfl | rfl | rfl | rfl | rfl | rfl | rfl : k = 0 ∨ k = 1 ∨ k = 2 ∨ k = 3 ∨ k = 4 ∨ k = 5 ∨ k = 6 ∨ k = 7 ∨ k = 8 := by omega
  all_goals rfl

theorem Vals.setBody {w : World} {b : Nat} {s : Nat → ByteArray} {bv bv' : Value} (h : Vals w b s bv) : Vals (w.setCell ⟨b, 9, none⟩ bv') b s bv' := by
  unfold Vals
  rw [heap_setCell_at h]
  rfl

theorem alloc_two {w : World} {o o1 p : Obj} (h : ((w.alloc o).alloc o1).heap[(w.alloc o).heap.size]? = some p) : ((w.alloc o).alloc o1).heap[w.heap.size + 1]? = some p := by
  rw [← h]
  simp

set_option maxHeartbeats 400000 in
theorem build_any (a : Option Addr) (n c : Nat) (s : Nat → ByteArray) (ab : Option Addr) (nb cb : Nat) (w : World) (hn : n ≤ 9223372036854775807) (h : Lies w a n (fun i => .string (s i))) :
    Calls Yba.prog 7 #[.slice a n c, .slice ab nb cb] w fun e w' => ∃ s' : Nat → ByteArray,
      e = .returned (.agg #[.string (s' 0), .string (s' 1), .string (s' 2), .string (s' 3), .string (s' 4), .string (s' 5), .string (s' 6), .string (s' 7), .string (s' 8), .slice ab nb cb, .int .u64 0]) ∧ Below w.heap.size w w' := by
  have H := hide h
  clear h
  go_enter Yba.func7, Yba.ntmps7
  go_wp2_with fail
  go_loopw [6] (fun iv wr => ∃ k : Nat, k ≤ 9 ∧ k ≤ n ∧ iv = .int .i64 (k : Nat) ∧ Hid (Vals wr (w.heap.size + 1) (tx s k) (.slice none 0 0)) ∧ Hid (Vals wr w.heap.size (tx s 0) (.slice none 0 0)) ∧ Hid (Below w.heap.size w wr)) (fun iv _ => 9 - (intOf iv).toNat)
  case atStart =>
    refine ⟨0, by omega, by omega, rfl, ?_, ?_, ?_⟩
    · exact hide (alloc_two (heap_alloc_new _ _))
    · exact hide ((Below.heap_alloc _ _ _ (by simp)).trans (heap_alloc_new _ _))
    · exact ((Below.refl _ _).alloc (Nat.le_refl _) _).alloc (by simp) _
  case round =>
    obtain ⟨k, hk, hkn, rfl, V1, V0, HB⟩ := hrel
    by_cases hlt : k < n ∧ k < 9
    · obtain ⟨hlt, h9⟩ := hlt
      have hlt' : (k : Int) < (n : Int) := by omega
      have h9' : (k : Int) < 9 := by omega
      obtain h0 | ⟨b, o, rfl, hbw, hc⟩ := H.out
      · omega
      have c0 : wr.cell? ⟨b, o + k, none⟩ = some (.string (s k)) := (HB.out.cell (by exact hbw)).trans (hc k hlt)
      have c1 := V1.out.cell k h9
      have f1 := V1.out.free k
      clear hc
      go_wp2_with fail
      go_roundw
      case rel =>
        have hlt1 := V1.out.lt
        exact ⟨k + 1, h9, hlt, by go_num, V1.out.store h9, V0.out.below (Below.setCell (Below.refl (w.heap.size + 1) _) (by simp) _) (by omega), HB.out.setCell (by simp) _⟩
      case measure => simp [intOf]; omega
    · have hb1 := V1.out.body.1
      have f9 := V1.out.free 9
      have g10 := V1.out.body.2
      have g0 := V1.out.cell 0 (by omega)
      have g1 := V1.out.cell 1 (by omega)
      have g2 := V1.out.cell 2 (by omega)
      have g3 := V1.out.cell 3 (by omega)
      have g4 := V1.out.cell 4 (by omega)
      have g5 := V1.out.cell 5 (by omega)
      have g6 := V1.out.cell 6 (by omega)
      have g7 := V1.out.cell 7 (by omega)
      have g8 := V1.out.cell 8 (by omega)
      have k0 := V0.out.cell 0 (by omega)
      have q0 := V0.out.free 0
      have k1 := V0.out.cell 1 (by omega)
      have q1 := V0.out.free 1
      have k2 := V0.out.cell 2 (by omega)
      have q2 := V0.out.free 2
      have k3 := V0.out.cell 3 (by omega)
      have q3 := V0.out.free 3
      have k4 := V0.out.cell 4 (by omega)
      have q4 := V0.out.free 4
      have k5 := V0.out.cell 5 (by omega)
      have q5 := V0.out.free 5
      have k6 := V0.out.cell 6 (by omega)
      have q6 := V0.out.free 6
      have k7 := V0.out.cell 7 (by omega)
      have q7 := V0.out.free 7
      have k8 := V0.out.cell 8 (by omega)
      have q8 := V0.out.free 8
      have k9 := V0.out.body.1
      have q9 := V0.out.free 9
      have k10 := V0.out.body.2
      have q10 := V0.out.free 10
      have HN := hide hlt
      clear V1 V0 H
      generalize tx s k = s1 at *
      by_cases hkn2 : k < n
      · obtain rfl : k = 9 := by have := HN.out; omega
        have hkn3 : (9 : Int) < (n : Int) := by omega
        clear hlt
        go_wp2_with fail
        refine bodyPost_ret (v := .agg #[.string (s1 0), .string (s1 1), .string (s1 2), .string (s1 3), .string (s1 4), .string (s1 5), .string (s1 6), .string (s1 7), .string (s1 8), .slice ab nb cb, .int .u64 0]) (by simp [results, Yba.results7, go_sem, k0, k1, k2, k3, k4, k5, k6, k7, k8, k9, k10]) rfl ⟨s1, rfl, ?_⟩
        refine Below.setCell ?_ (by simp) _
        refine Below.setCell ?_ (by simp) _
        refine Below.setCell ?_ (by simp) _
        refine Below.setCell ?_ (by simp) _
        refine Below.setCell ?_ (by simp) _
        refine Below.setCell ?_ (by simp) _
        refine Below.setCell ?_ (by simp) _
        refine Below.setCell ?_ (by simp) _
        refine Below.setCell ?_ (by simp) _
        refine Below.setCell ?_ (by simp) _
        refine Below.setCell ?_ (by simp) _
        refine Below.setCell ?_ (by simp) _
        exact HB.out
      · obtain rfl : k = n := by omega
        clear hlt
        go_wp2_with fail
        refine bodyPost_ret (v := .agg #[.string (s1 0), .string (s1 1), .string (s1 2), .string (s1 3), .string (s1 4), .string (s1 5), .string (s1 6), .string (s1 7), .string (s1 8), .slice ab nb cb, .int .u64 0]) (by simp [results, Yba.results7, go_sem, k0, k1, k2, k3, k4, k5, k6, k7, k8, k9, k10]) rfl ⟨s1, rfl, ?_⟩
        refine Below.setCell ?_ (by simp) _
        refine Below.setCell ?_ (by simp) _
        refine Below.setCell ?_ (by simp) _
        refine Below.setCell ?_ (by simp) _
        refine Below.setCell ?_ (by simp) _
        refine Below.setCell ?_ (by simp) _
        refine Below.setCell ?_ (by simp) _
        refine Below.setCell ?_ (by simp) _
        refine Below.setCell ?_ (by simp) _
        refine Below.setCell ?_ (by simp) _
        refine Below.setCell ?_ (by simp) _
        refine Below.setCell ?_ (by simp) _
        exact HB.out
end Go.Proofs.Ybulkbvsi
