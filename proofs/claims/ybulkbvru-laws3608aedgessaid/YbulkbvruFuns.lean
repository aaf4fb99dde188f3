/-
  WALKS for seat b3608a: the points, the search, the membership.
-/
import Derived.Test.YbulkbvruRows
import Derived.WalkKit
import Derived.ProofKit
import Derived.WalkSpells
import Derived.WalkLawsBesides
import Derived.Below
namespace Go.Proofs.Ybulkbvru
open Go.ChangeShapes Go.WideShapes Go.ChangeAt Go.RowKit
set_option linter.unusedVariables false

theorem hide {p : Prop} (h : p) : Hid p := h

/-- The points. -/
def pt (a : Int) (z : Nat → Int) : Nat → Int
  | 0 => a
  | i + 1 => pt a z i + (z (i + 1) + 1)

theorem pt_bound {a : Int} {z : Nat → Int} (ha : -2147483648 ≤ a ∧ a ≤ 2147483647) (hz : ∀ i, 0 ≤ z i ∧ z i ≤ 65535) : ∀ i, -2147483648 ≤ pt a z i ∧ pt a z i ≤ 2147483647 + 65536 * (i : Int)
  | 0 => by simpa [pt] using ha
  | i + 1 => by
    have h1 := pt_bound ha hz i
    have h2 := hz (i + 1)
    simp only [pt]
    omega

theorem pt_lt {a : Int} {z : Nat → Int} (hz : ∀ i, 0 ≤ z i ∧ z i ≤ 65535) (i : Nat) : ∀ d, pt a z i < pt a z (i + d + 1)
  | 0 => by have := hz (i + 1); simp only [pt]; rw [Nat.add_zero]; omega
  | d + 1 => by
    have h1 : pt a z i < pt a z (i + d + 1) := pt_lt hz i d
    have h2 := hz (i + d + 1 + 1)
    have h3 : pt a z (i + (d + 1) + 1) = pt a z (i + d + 1) + (z (i + d + 1 + 1) + 1) := rfl
    omega
theorem pt_mono {a : Int} {z : Nat → Int} (hz : ∀ i, 0 ≤ z i ∧ z i ≤ 65535) {i j : Nat} (h : i < j) : pt a z i < pt a z j := by
  obtain ⟨d, rfl⟩ : ∃ d, j = i + d + 1 := ⟨j - i - 1, by omega⟩
  exact pt_lt hz i d

/-- How many of the first n points lie at or below v. -/
def cnt (p : Nat → Int) (v : Int) : Nat → Nat
  | 0 => 0
  | n + 1 => cnt p v n + if p n ≤ v then 1 else 0

theorem cnt_le (p : Nat → Int) (v : Int) : ∀ n, cnt p v n ≤ n
  | 0 => Nat.le_refl _
  | n + 1 => by have := cnt_le p v n; simp only [cnt]; split <;> omega

theorem cnt_at {p : Nat → Int} {v : Int} {i : Nat} (hlo : ∀ j, j < i → p j ≤ v) : ∀ n, (∀ j, i ≤ j → j < n → v < p j) → cnt p v n = min i n
  | 0, _ => by simp [cnt]
  | n + 1, hhi => by
    have ih := cnt_at hlo n (fun j h1 h2 => hhi j h1 (by omega))
    simp only [cnt]
    rw [ih]
    by_cases h : n < i
    · rw [if_pos (hlo n h)]; omega
    · rw [if_neg (by have := hhi n (by omega) (by omega); omega)]; omega

/-- What Compare says. -/
def cmp (x y : Int) : Int := if x < y then -1 else if y < x then 1 else 0
theorem cmp_lt {x y : Int} : cmp x y < 0 ↔ x < y := by unfold cmp; split <;> (try split) <;> omega
theorem cmp_eq {x y : Int} : cmp x y = 0 ↔ x = y := by unfold cmp; split <;> (try split) <;> omega
theorem cmp_le {x y : Int} : cmp x y ≤ 0 ↔ x ≤ y := by unfold cmp; split <;> (try split) <;> omega

set_option maxHeartbeats 400000 in
theorem compare_any (x y : Int) (w : World) : Calls Yba.prog 25 #[.int .i64 x, .int .i64 y] w fun e w' => e = .returned (.int .i64 (cmp x y)) ∧ w' = w := by
  unfold cmp
  by_cases h1 : x < y
  · rw [if_pos h1]
    go_enter Yba.func25, Yba.ntmps25
    go_wp2
    go_ret
    exact ⟨rfl, rfl⟩
  · rw [if_neg h1]
    by_cases h2 : y < x
    · rw [if_pos h2]
      go_enter Yba.func25, Yba.ntmps25
      go_wp2
      go_ret
      exact ⟨rfl, rfl⟩
    · rw [if_neg h2]
      go_enter Yba.func25, Yba.ntmps25
      go_wp2
      go_ret
      exact ⟨rfl, rfl⟩

theorem meth (x : Int) (w : World) : (method 155 28 (.int .i64 x) "Compare").run Yba.prog w = .ok (25, .int .i64 x) w := by kernel_rfl

set_option maxHeartbeats 400000 in
theorem less_any (x y : Int) (w : World) : Calls Yba.prog 8 #[.int .i64 x, .int .i64 y] w fun e w' => e = .returned (.int .i64 (cmp x y)) ∧ w' = w := by
  have hm := meth x
  go_enter Yba.func8, Yba.ntmps8
  go_wp2_with fail
  go_simp
  go_wp2_with fail
  refine (compare_any x y _).mono ?_
  rintro e w' ⟨rfl, rfl⟩
  go_wp2_with fail
  go_ret
  exact ⟨rfl, rfl⟩

/-- Whether the search found v itself. -/
def fnd (i n : Nat) (x v : Int) : Bool := decide (i < n ∧ x = v)
theorem fnd_in {i n : Nat} {x v : Int} (h : i < n) : fnd i n x v = (cmp x v == 0) := by
  unfold fnd
  by_cases hv : x = v
  · rw [cmp_eq.2 hv]
    simp [h, hv]
  · have h2 : ¬ cmp x v = 0 := fun h => hv (cmp_eq.1 h)
    simp [hv, h2]
theorem fnd_out {i n : Nat} {x v : Int} (h : ¬ i < n) : fnd i n x v = false := decide_eq_false fun h' => h h'.1

/-- The row of points in memory. -/
def PRow (w : World) (b n : Nat) (p : Nat → Int) : Prop := ∀ i, i < n → w.cell? ⟨b, i, none⟩ = some (.int .i64 (p i))

set_option maxHeartbeats 400000 in
/-- The search comes to the first point at or above v. -/
theorem search_any (b n cap : Nat) (p : Nat → Int) (v : Int) (w : World) (hn : n ≤ 1024) (hp : ∀ i j, i < j → p i < p j) (h : PRow w b n p) :
    Calls Yba.prog 7 #[.slice (some ⟨b, 0, none⟩) n cap, .int .i64 v, .func (.func 8) #[] #[]] w fun e w' => ∃ i : Nat, i ≤ n ∧ (∀ j, j < i → p j < v) ∧ (∀ j, i ≤ j → j < n → v ≤ p j) ∧
      e = .returned (.tuple #[.int .i64 i, .bool (fnd i n (p i) v)]) ∧ w' = w := by
  have H := hide h
  have HP := hide hp
  clear h hp
  go_enter Yba.func7, Yba.ntmps7
  go_wp2_with fail
  go_loopw [9, 10] (fun lo hi wr => ∃ i k : Nat, i ≤ k ∧ k ≤ n ∧ lo = .int .i64 i ∧ hi = .int .i64 k ∧ wr = w ∧ Hid (∀ j, j < i → p j < v) ∧ Hid (∀ j, k ≤ j → j < n → v ≤ p j)) (fun lo hi _ => (intOf hi).toNat - (intOf lo).toNat)
  case atStart => exact ⟨0, n, Nat.zero_le _, Nat.le_refl _, rfl, rfl, rfl, fun j h => by omega, fun j h1 h2 => by omega⟩
  case round =>
    obtain ⟨i, k, hik, hkn, rfl, rfl, rfl, HL, HH⟩ := hrel
    by_cases hlt : i < k
    · have hlt' : (i : Int) < (k : Int) := by omega
      have hc := H.out ((i + k) / 2) (by omega)
      by_cases hv : p ((i + k) / 2) < v
      · have hv' := cmp_lt.2 hv
        go_wp2_with fail
        refine (less_any _ _ _).mono ?_
        rintro e w' ⟨rfl, rfl⟩
        go_wp2_with fail
        go_roundw
        case rel =>
          refine ⟨(i + k) / 2 + 1, k, by omega, hkn, by go_num, rfl, by trivial, fun j hj => ?_, HH⟩
          rcases Nat.lt_or_ge j ((i + k) / 2) with h | h
          · have := HP.out j _ h; omega
          · obtain rfl : j = (i + k) / 2 := by omega
            exact hv
        case measure => simp [intOf]; omega
      · have hv' : ¬ cmp (p ((i + k) / 2)) v < 0 := fun h => hv (cmp_lt.1 h)
        go_wp2_with fail
        refine (less_any _ _ _).mono ?_
        rintro e w' ⟨rfl, rfl⟩
        go_wp2_with fail
        go_roundw
        case rel =>
          refine ⟨i, (i + k) / 2, by omega, by omega, rfl, by go_num, by trivial, HL, fun j hj hjn => ?_⟩
          rcases Nat.eq_or_lt_of_le hj with h | h
          · subst h; omega
          · have := HP.out _ j h; omega
        case measure => simp [intOf]; omega
    · obtain rfl : i = k := by omega
      by_cases hin : i < n
      · have hc := H.out i hin
        have hin' : (i : Int) < (n : Int) := by omega
        go_wp2_with fail
        refine (less_any _ _ _).mono ?_
        rintro e w' ⟨rfl, rfl⟩
        go_wp2_with fail
        go_ret2
        exact ⟨i, hkn, HL.out, HH.out, by rw [fnd_in hin]; rfl, rfl⟩
      · have hin' : ¬ (i : Int) < (n : Int) := by omega
        go_wp2_with fail
        go_ret2
        exact ⟨i, hkn, HL.out, HH.out, by rw [fnd_out hin]; rfl, rfl⟩

theorem cnt_one {p : Nat → Int} {v : Int} (i : Nat) (hlo : ∀ j, j < i → p j ≤ v) (n : Nat) (hin : i ≤ n) (hhi : ∀ j, i ≤ j → j < n → v < p j) : cnt p v n = i := by
  rw [cnt_at hlo n hhi]; omega

/-- What has says. -/
def odd (k : Nat) : Bool := decide (k % 2 = 1)
theorem odd_eq (k : Nat) : odd k = ((k : Int) % 2 == 1) := by
  unfold odd
  by_cases h : k % 2 = 1
  · rw [decide_eq_true h]; symm; simp; omega
  · rw [decide_eq_false h]; symm; simp; omega

set_option maxHeartbeats 800000 in
theorem has_any (b n cap : Nat) (p : Nat → Int) (v : Int) (w : World) (hn : n ≤ 1024) (hp : ∀ i j, i < j → p i < p j) (h : PRow w b n p) (hb : b < w.heap.size) :
    Calls Yba.prog 6 #[.agg #[.slice (some ⟨b, 0, none⟩) n cap], .int .i64 v] w fun e w' => e = .returned (.bool (odd (cnt p v n))) ∧ w' = w.alloc (Obj.cells #[.slice (some ⟨b, 0, none⟩) n cap] 26) := by
  have H : Hid (PRow (w.alloc (Obj.cells #[.slice (some ⟨b, 0, none⟩) n cap] 26)) b n p) := fun i hi => by
    rw [← h i hi]
    simp only [World.cell?, Below.heap_alloc _ _ _ hb]
  have HP := hide hp
  clear h hp
  by_cases h2 : n ≤ 2
  · have hm := fun x => meth x (w.alloc (Obj.cells #[.slice (some ⟨b, 0, none⟩) n cap] 26))
    obtain rfl | rfl | rfl : n = 0 ∨ n = 1 ∨ n = 2 := by omega
    · go_enter Yba.func6, Yba.ntmps6
      go_wp2_with fail
      go_ret
      exact ⟨rfl, rfl⟩
    · have c0 := H.out 0 (by omega)
      by_cases h0 : p 0 ≤ v
      · have h0' := cmp_le.2 h0
        have HC : Hid (odd (cnt p v 1) = true) := by simp [Hid, cnt, h0, odd]
        go_enter Yba.func6, Yba.ntmps6
        go_wp2_with fail
        go_simp
        go_wp2_with fail
        refine (compare_any _ _ _).mono ?_
        rintro e w' ⟨rfl, rfl⟩
        go_wp2_with fail
        go_ret
        rw [HC.out]
        exact ⟨rfl, rfl⟩
      · have h0' : ¬ cmp (p 0) v ≤ 0 := fun h => h0 (cmp_le.1 h)
        have HC : Hid (odd (cnt p v 1) = false) := by simp [Hid, cnt, h0, odd]
        go_enter Yba.func6, Yba.ntmps6
        go_wp2_with fail
        go_simp
        go_wp2_with fail
        refine (compare_any _ _ _).mono ?_
        rintro e w' ⟨rfl, rfl⟩
        go_wp2_with fail
        go_ret
        rw [HC.out]
        exact ⟨rfl, rfl⟩
    · have c0 := H.out 0 (by omega)
      have c1 := H.out 1 (by omega)
      by_cases h0 : p 0 ≤ v
      · have h0' := cmp_le.2 h0
        by_cases h1 : v < p 1
        · have h1' := cmp_lt.2 h1
          have HC : Hid (odd (cnt p v 2) = true) := by simp [Hid, cnt, h0, odd, Int.not_le.2 h1]
          go_enter Yba.func6, Yba.ntmps6
          go_wp2_with fail
          go_simp
          go_wp2_with fail
          refine (compare_any _ _ _).mono ?_
          rintro e w' ⟨rfl, rfl⟩
          go_wp2_with fail
          go_simp
          go_wp2_with fail
          refine (compare_any _ _ _).mono ?_
          rintro e w' ⟨rfl, rfl⟩
          go_wp2_with fail
          go_ret
          rw [HC.out]
          exact ⟨rfl, rfl⟩
        · have h1' : ¬ cmp v (p 1) < 0 := fun h => h1 (cmp_lt.1 h)
          have HC : Hid (odd (cnt p v 2) = false) := by simp [Hid, cnt, h0, odd, Int.not_lt.1 h1]
          go_enter Yba.func6, Yba.ntmps6
          go_wp2_with fail
          go_simp
          go_wp2_with fail
          refine (compare_any _ _ _).mono ?_
          rintro e w' ⟨rfl, rfl⟩
          go_wp2_with fail
          go_simp
          go_wp2_with fail
          refine (compare_any _ _ _).mono ?_
          rintro e w' ⟨rfl, rfl⟩
          go_wp2_with fail
          go_ret
          rw [HC.out.trans (decide_eq_false (Int.not_lt.2 h1')).symm]
          exact ⟨rfl, rfl⟩
      · have h0' : ¬ cmp (p 0) v ≤ 0 := fun h => h0 (cmp_le.1 h)
        have HC : Hid (odd (cnt p v 2) = false) := by
          have := HP.out 0 1 (by omega)
          simp [Hid, cnt, h0, odd, show ¬ p 1 ≤ v by omega]
        go_enter Yba.func6, Yba.ntmps6
        go_wp2_with fail
        go_simp
        go_wp2_with fail
        refine (compare_any _ _ _).mono ?_
        rintro e w' ⟨rfl, rfl⟩
        go_wp2_with fail
        go_ret
        rw [HC.out]
        exact ⟨rfl, rfl⟩
  · have h2' : ¬ (n : Int) ≤ 2 := by omega
    go_enter Yba.func6, Yba.ntmps6
    go_wp2_with fail
    refine (search_any b n cap p v _ hn HP.out H.out).mono ?_
    rintro e w' ⟨i, hi, hlo, hhi, rfl, rfl⟩
    by_cases hf : i < n ∧ p i = v
    · have hf' : fnd i n (p i) v = true := decide_eq_true hf
      have HC := hide (cnt_one (p := p) (v := v) (i + 1) (fun j hj => by
        rcases Nat.lt_or_ge j i with h | h
        · exact Int.le_of_lt (hlo j h)
        · obtain rfl : j = i := by omega
          omega) n (by omega) (fun j hj hjn => by have := HP.out i j (by omega); omega))
      rw [hf']
      have hi' : i ≤ 1024 := by omega
      clear hlo hhi hf
      go_wp2_with fail
      go_ret
      rw [HC.out, odd_eq]
      exact ⟨rfl, rfl⟩
    · have hf' : fnd i n (p i) v = false := decide_eq_false hf
      have HC := hide (cnt_one (p := p) (v := v) i (fun j hj => Int.le_of_lt (hlo j hj)) n hi (fun j hj hjn => by
        rcases Nat.eq_or_lt_of_le hj with h | h
        · subst h
          have := hhi i (Nat.le_refl _) hjn
          have : ¬ p i = v := fun e => hf ⟨hjn, e⟩
          omega
        · have := HP.out i j h
          have := hhi i (Nat.le_refl _) (by omega)
          omega))
      rw [hf']
      have hi' : i ≤ 1024 := by omega
      clear hlo hhi hf
      go_wp2_with fail
      go_ret
      rw [HC.out, odd_eq]
      exact ⟨rfl, rfl⟩
end Go.Proofs.Ybulkbvru
