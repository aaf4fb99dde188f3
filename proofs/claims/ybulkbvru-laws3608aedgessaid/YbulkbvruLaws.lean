/-
  WALKS for seat b3608a: the two laws.
-/
import Derived.Test.YbulkbvruBuild
import Derived.Deep.QuietTactic
import Derived.Deep.RegionWith
import Derived.BigQuiet
namespace Go.Proofs.Ybulkbvru
open Go.ChangeShapes Go.WideShapes Go.ChangeAt Go.RowKit
set_option linter.unusedVariables false

/-- The gaps in memory. -/
def Gaps (w : World) (ao : Option Addr) (n : Nat) (z : Nat → Int) : Prop := n = 0 ∨ ∃ b o, ao = some ⟨b, o, none⟩ ∧ b < w.heap.size ∧ ∀ i, i < n → w.cell? ⟨b, o + i, none⟩ = some (.int .u16 (z i))

theorem PRow.below {w w' : World} {B b n : Nat} {p : Nat → Int} (h : PRow w b n p) (hb : Below B w w') (hB : b < B) : PRow w' b n p := fun i hi => (hb.cell hB).trans (h i hi)

theorem count_le (p : Nat → Int) (v : Int) (k : Nat) (h : p k ≤ v) : cnt p v (k + 1) = cnt p v k + 1 := by simp [cnt, h]
theorem count_gt (p : Nat → Int) (v : Int) (k : Nat) (h : ¬ p k ≤ v) : cnt p v (k + 1) = cnt p v k := by simp [cnt, h]

set_option maxHeartbeats 800000 in
theorem model_small (a0 : Int) (ao : Option Addr) (n c0 : Nat) (z : Nat → Int) (v : Int) (w : World) (hn : n ≤ 1024) (ha : -2147483648 ≤ a0 ∧ a0 ≤ 2147483647) (hz : ∀ i, 0 ≤ z i ∧ z i ≤ 65535) (hr : Gaps w ao n z) :
    Calls Yba.prog 3 #[.int .i32 a0, .slice ao n c0, .int .i64 v] w fun e w' => e = .returned (.bool true) ∧ Below w.heap.size w w' := by
  have hn' : (n : Int) ≤ 1024 := by omega
  go_enter Yba.func3, Yba.ntmps3
  go_wp2_with fail
  refine (build_any a0 ao n c0 z _ hn ha hz hr).mono ?_
  rintro e w1 ⟨rfl, hp, hs, hb⟩
  have HP := hide hp
  have HM : Hid (∀ i j, i < j → pt a0 z i < pt a0 z j) := fun i j h => pt_mono hz h
  clear hp hz hr
  generalize hq : pt a0 z = p at *
  clear hq
  go_wp2_with fail
  refine (has_any w.heap.size n n p v _ hn HM.out ?_ (by simp; omega)).mono ?_
  · exact HP.out.below ((Below.refl _ _).alloc (Nat.le_refl _) _) hs
  rintro e w2 ⟨rfl, hw2⟩
  have hb2 : Below w.heap.size w w2 := by subst hw2; exact (hb.alloc (by omega) _).alloc (by simp; omega) _
  have P2 : Hid (PRow w2 w.heap.size n p) := by subst hw2; exact HP.out.below (((Below.refl _ _).alloc (Nat.le_refl _) _).alloc (by simp) _) hs
  have HB := hide hb2
  clear hw2 HP hb hs hb2
  go_wp2_with fail
  go_loopw [10, 11] (fun cv si wr => ∃ k : Nat, k ≤ n ∧ si = .int .i64 k ∧ cv = .int .i64 (cnt p v k) ∧ wr = w2) (fun _ si _ => n - (intOf si).toNat)
  case atStart => exact ⟨0, Nat.zero_le _, rfl, rfl, rfl⟩
  case round =>
    obtain ⟨k, hk, rfl, rfl, rfl⟩ := hrel
    have hcl := cnt_le p v k
    by_cases hlt : k < n
    · have hlt' : (k : Int) < (n : Int) := by omega
      have hc := P2.out k hlt
      by_cases hv : p k ≤ v
      · have HC := hide (count_le p v k hv)
        go_wp2_with fail
        go_roundw
        case rel => exact ⟨k + 1, hlt, by go_num, by rw [HC.out]; go_num, by trivial⟩
        case measure => simp [intOf]; omega
      · have HC := hide (count_gt p v k hv)
        go_wp2_with fail
        go_roundw
        case rel => exact ⟨k + 1, hlt, by go_num, by rw [HC.out], by trivial⟩
        case measure => simp [intOf]; omega
    · obtain rfl : k = n := by omega
      rw [odd_eq]
      go_wp2_with fail
      go_ret
      exact ⟨rfl, HB.out⟩

set_option maxHeartbeats 400000 in
theorem model_big (a0 : Int) (ao : Option Addr) (n c0 : Nat) (v : Int) (w : World) (hn : 1024 < n) (hm : n ≤ maxLen) :
    Calls Yba.prog 3 #[.int .i32 a0, .slice ao n c0, .int .i64 v] w fun e w' => e = .returned (.bool true) ∧ Below w.heap.size w w' := by
  unfold maxLen at hm
  have hn' : (1024 : Int) < (n : Int) := by omega
  go_enter Yba.func3, Yba.ntmps3
  go_wp2
  go_ret
  exact ⟨rfl, Below.refl _ _⟩

set_option maxHeartbeats 400000 in
theorem edges_big (a0 : Int) (ao : Option Addr) (n c0 : Nat) (w : World) (hn : 1024 < n) (hm : n ≤ maxLen) :
    Calls Yba.prog 4 #[.int .i32 a0, .slice ao n c0] w fun e w' => e = .returned (.bool true) ∧ Below w.heap.size w w' := by
  unfold maxLen at hm
  have hn' : (1024 : Int) < (n : Int) := by omega
  go_enter Yba.func4, Yba.ntmps4
  go_wp2
  go_ret
  exact ⟨rfl, Below.refl _ _⟩

/-- At a point, and just below it. -/
theorem cnt_on {p : Nat → Int} (hp : ∀ i j, i < j → p i < p j) {k n : Nat} (h : k < n) : cnt p (p k) n = k + 1 :=
  cnt_one (k + 1) (fun j hj => by
    rcases Nat.lt_or_ge j k with h | h
    · exact Int.le_of_lt (hp j k h)
    · obtain rfl : j = k := by omega
      exact Int.le_refl _) n h (fun j hj _ => hp k j hj)
theorem cnt_under {p : Nat → Int} (hp : ∀ i j, i < j → p i < p j) {k n : Nat} (h : k < n) : cnt p (p k - 1) n = k :=
  cnt_one k (fun j hj => by have := hp j k hj; omega) n (Nat.le_of_lt h) (fun j hj _ => by
    rcases Nat.eq_or_lt_of_le hj with h | h
    · subst h; omega
    · have := hp k j h; omega)
theorem odd_succ (k : Nat) : odd (k + 1) = ((k : Int).tmod 2 == 0) := by
  rw [Int.tmod_eq_emod_of_nonneg (by omega)]
  unfold odd
  by_cases h : (k + 1) % 2 = 1
  · rw [decide_eq_true h]; symm; simp; omega
  · rw [decide_eq_false h]; symm; simp; omega

theorem odd_tmod (k : Nat) : odd k = ((k : Int).tmod 2 == 1) := by
  rw [Int.tmod_eq_emod_of_nonneg (by omega), odd_eq]

/-- What lies there in each round: the points and the set's variable. -/
structure Ed (w wr : World) (s n : Nat) (p : Nat → Int) : Prop where
  row : PRow wr w.heap.size n p
  set : wr.cell? ⟨s, 0, none⟩ = some (.slice (some ⟨w.heap.size, 0, none⟩) n n)
  szs : s < wr.heap.size
  szw : w.heap.size < wr.heap.size
  bel : Below w.heap.size w wr
theorem Ed.alloc {w wr : World} {s n : Nat} {p : Nat → Int} (h : Ed w wr s n p) (o : Obj) : Ed w (wr.alloc o) s n p := by
  have hb : Below wr.heap.size wr (wr.alloc o) := (Below.refl _ _).alloc (Nat.le_refl _) _
  exact ⟨h.row.below hb h.szw, (hb.cell h.szs).trans h.set, by have := h.szs; simp; omega, by have := h.szw; simp; omega, h.bel.alloc (Nat.le_of_lt h.szw) _⟩
theorem Ed.drew {w wr : World} {s n : Nat} {p : Nat → Int} (h : Ed w wr s n p) : Ed w wr.drew s n p := ⟨h.row, h.set, h.szs, h.szw, h.bel.drew⟩

theorem ed_next {w wr w3 : World} {s n k : Nat} {p : Nat → Int} {o : Obj} (h : Ed w wr s n p) (hk : k < n) (hw : w3 = wr.drew.alloc o) :
    Hid (Ed w w3 s n p) ∧ w3.cell? ⟨w.heap.size, k, none⟩ = some (.int .i64 (p k)) ∧ w3.cell? ⟨s, 0, none⟩ = some (.slice (some ⟨w.heap.size, 0, none⟩) n n) := by
  subst hw
  have := h.drew.alloc o
  exact ⟨this, this.row k hk, this.set⟩
end Go.Proofs.Ybulkbvru
