/-
  WALKS for seat b3609a: the set of fields, the lengths.
-/
import Derived.Test.YbulkbvsiRows
import Derived.WalkKit
import Derived.ProofKit
import Derived.WalkSpells
import Derived.WalkLawsBesides
import Derived.Laws.BitsAllLaws
import Derived.Below
namespace Go.Proofs.Ybulkbvsi
open Go.ChangeShapes Go.WideShapes Go.ChangeAt Go.RowKit
set_option linter.unusedVariables false

theorem hide {p : Prop} (h : p) : Hid p := h

theorem and_bit (X f Y : Nat) (hX : X < 18446744073709551616) (hY : Y = 2 ^ f) (hY' : Y < 18446744073709551616) : (bits .and .u64 (X : Int) (Y : Int) != 0) = X.testBit f := by
  rw [u64_and_nat X Y hX hY', hY]
  cases hb : X.testBit f with
  | false =>
    have h0 : X &&& 2 ^ f = 0 := Nat.eq_of_testBit_eq fun i => by
      rw [Nat.testBit_and, Nat.testBit_two_pow, Nat.zero_testBit]
      by_cases h : f = i
      · subst h; simp [hb]
      · simp [h]
    rw [h0]
    rfl
  | true =>
    have h0 : ¬ X &&& 2 ^ f = 0 := fun h => by
      have e : (X &&& 2 ^ f).testBit f = true := by rw [Nat.testBit_and, Nat.testBit_two_pow, hb]; simp
      rw [h, Nat.zero_testBit] at e
      cases e
    simp [h0]

set_option maxHeartbeats 400000 in
theorem has_any (X : Nat) (f : Nat) (w : World) (hX : X < 18446744073709551616) (hf : f < 9) :
    Calls Yba.prog 12 #[.int .u64 X, .int .u8 f] w fun e w' => e = .returned (.bool (X.testBit f)) ∧ w' = w := by
  obtain rfl | rfl | rfl | rfl | rfl | rfl | rfl | rfl | rfl : f = 0 ∨ f = 1 ∨ f = 2 ∨ f = 3 ∨ f = 4 ∨ f = 5 ∨ f = 6 ∨ f = 7 ∨ f = 8 := by omega
  all_goals
    go_enter Yba.func12, Yba.ntmps12
    go_wp2
    go_ret
  · exact ⟨by rw [← and_bit X 0 1 hX rfl (by decide)]; rfl, rfl⟩
  · exact ⟨by rw [← and_bit X 1 2 hX rfl (by decide)]; rfl, rfl⟩
  · exact ⟨by rw [← and_bit X 2 4 hX rfl (by decide)]; rfl, rfl⟩
  · exact ⟨by rw [← and_bit X 3 8 hX rfl (by decide)]; rfl, rfl⟩
  · exact ⟨by rw [← and_bit X 4 16 hX rfl (by decide)]; rfl, rfl⟩
  · exact ⟨by rw [← and_bit X 5 32 hX rfl (by decide)]; rfl, rfl⟩
  · exact ⟨by rw [← and_bit X 6 64 hX rfl (by decide)]; rfl, rfl⟩
  · exact ⟨by rw [← and_bit X 7 128 hX rfl (by decide)]; rfl, rfl⟩
  · exact ⟨by rw [← and_bit X 8 256 hX rfl (by decide)]; rfl, rfl⟩

/-- The message's fields in memory. -/
def Vals (w : World) (b : Nat) (s : Nat → ByteArray) (bv : Value) : Prop :=
  w.heap[b]? = some (.cells #[.string (s 0), .string (s 1), .string (s 2), .string (s 3), .string (s 4), .string (s 5), .string (s 6), .string (s 7), .string (s 8), bv, .int .u64 0] 29 (0, 0))

theorem Vals.cell {w : World} {b : Nat} {s : Nat → ByteArray} {bv : Value} (h : Vals w b s bv) (k : Nat) (hk : k < 9) : w.cell? ⟨b, k, none⟩ = some (.string (s k)) := by
  obtain rfl | rfl | rfl | rfl | rfl | rfl | rfl | rfl | rfl : k = 0 ∨ k = 1 ∨ k = 2 ∨ k = 3 ∨ k = 4 ∨ k = 5 ∨ k = 6 ∨ k = 7 ∨ k = 8 := by omega
  all_goals
    simp only [World.cell?]
    rw [show w.heap[b]? = _ from h]
    rfl
theorem Vals.body {w : World} {b : Nat} {s : Nat → ByteArray} {bv : Value} (h : Vals w b s bv) : w.cell? ⟨b, 9, none⟩ = some bv ∧ w.cell? ⟨b, 10, none⟩ = some (.int .u64 0) := by
  constructor
  all_goals
    simp only [World.cell?]
    rw [show w.heap[b]? = _ from h]
    rfl
theorem Vals.free {w : World} {b : Nat} {s : Nat → ByteArray} {bv : Value} (h : Vals w b s bv) (k : Nat) : w.frozen? ⟨b, k, none⟩ = false := by
  simp only [World.frozen?]
  rw [show w.heap[b]? = _ from h]
  simp
theorem Vals.lt {w : World} {b : Nat} {s : Nat → ByteArray} {bv : Value} (h : Vals w b s bv) : b < w.heap.size := (Array.getElem?_eq_some_iff.1 h).1
theorem Vals.below {w w' : World} {B b : Nat} {s : Nat → ByteArray} {bv : Value} (h : Vals w b s bv) (hb : Below B w w') (hB : b < B) : Vals w' b s bv := (hb.block b hB).trans h

/-- The length of a field. -/
def ln (s : Nat → ByteArray) (nb f : Nat) : Nat := if f = 7 then nb else (s f).size

set_option maxHeartbeats 400000 in
theorem len_any (b : Nat) (s : Nat → ByteArray) (ab : Option Addr) (nb cb : Nat) (f : Nat) (w : World) (hf : f < 9) (h : Vals w b s (.slice ab nb cb)) :
    Calls Yba.prog 13 #[.pointer (some ⟨b, 0, none⟩), .int .u8 f] w fun e w' => e = .returned (.int .i64 (ln s nb f)) ∧ w' = w := by
  have hb := h.body.1
  have c := h.cell f hf
  clear h
  obtain rfl | rfl | rfl | rfl | rfl | rfl | rfl | rfl | rfl : f = 0 ∨ f = 1 ∨ f = 2 ∨ f = 3 ∨ f = 4 ∨ f = 5 ∨ f = 6 ∨ f = 7 ∨ f = 8 := by omega
  all_goals
    go_enter Yba.func13, Yba.ntmps13
    go_wp2
    go_ret
    exact ⟨rfl, rfl⟩

/-- Of the first n fields each that is wanted is there. -/
def okTo (X : Nat) (L : Nat → Nat) : Nat → Bool
  | 0 => true
  | n + 1 => okTo X L n && !(X.testBit n && L n == 0)

theorem ok_mono {X : Nat} {L : Nat → Nat} {k : Nat} (h : okTo X L k = false) : ∀ d, okTo X L (k + d) = false
  | 0 => h
  | d + 1 => by rw [← Nat.add_assoc, okTo, ok_mono h d]; rfl
theorem ok_none (L : Nat → Nat) : ∀ n, okTo 0 L n = true
  | 0 => rfl
  | n + 1 => by simp [okTo, ok_none L n]
theorem ok_or (A B : Nat) (L : Nat → Nat) : ∀ n, okTo (A ||| B) L n = (okTo A L n && okTo B L n)
  | 0 => rfl
  | n + 1 => by
    simp only [okTo, ok_or A B L n, Nat.testBit_or]
    cases A.testBit n <;> cases B.testBit n <;> cases okTo A L n <;> cases okTo B L n <;> cases (L n == 0) <;> rfl

set_option maxHeartbeats 400000 in
theorem hasAll_any (b : Nat) (s : Nat → ByteArray) (ab : Option Addr) (nb cb : Nat) (X : Nat) (w : World) (hX : X < 18446744073709551616) (h : Vals w b s (.slice ab nb cb)) :
    Calls Yba.prog 9 #[.pointer (some ⟨b, 0, none⟩), .int .u64 X] w fun e w' => e = .returned (.bool (okTo X (ln s nb) 9)) ∧ w' = w := by
  have H := hide h
  clear h
  go_enter Yba.func9, Yba.ntmps9
  go_wp2_with fail
  go_loopw [6] (fun fv wr => ∃ k : Nat, k ≤ 9 ∧ fv = .int .u8 k ∧ wr = w ∧ Hid (okTo X (ln s nb) k = true)) (fun fv _ => 9 - (intOf fv).toNat)
  case atStart => exact ⟨0, by omega, rfl, rfl, rfl⟩
  case round =>
    obtain ⟨k, hk, rfl, rfl, HK⟩ := hrel
    by_cases hlt : k < 9
    · have hlt' : (k : Int) < 9 := by omega
      by_cases hb : X.testBit k = true
      · by_cases hl : ln s nb k = 0
        · go_wp2_with fail
          refine (has_any X k _ hX hlt).mono ?_
          rintro e w' ⟨rfl, rfl⟩
          rw [hb]
          go_wp2_with fail
          refine (len_any b s ab nb cb k _ hlt H.out).mono ?_
          rintro e w' ⟨rfl, rfl⟩
          rw [hl]
          go_wp2_with fail
          go_ret
          have e : okTo X (ln s nb) (k + 1) = false := by rw [okTo, HK.out, hb, hl]; rfl
          have e2 := ok_mono e (9 - (k + 1))
          rw [show k + 1 + (9 - (k + 1)) = 9 by omega] at e2
          rw [e2]
          exact ⟨rfl, rfl⟩
        · have hl' : ¬ (ln s nb k : Int) = 0 := by omega
          have e : okTo X (ln s nb) (k + 1) = true := by rw [okTo, HK.out, hb]; simp [hl]
          have HE := hide e
          clear e
          go_wp2_with fail
          refine (has_any X k _ hX hlt).mono ?_
          rintro e w' ⟨rfl, rfl⟩
          rw [hb]
          go_wp2_with fail
          refine (len_any b s ab nb cb k _ hlt H.out).mono ?_
          rintro e w' ⟨rfl, rfl⟩
          go_wp2_with fail
          go_roundw
          case rel => exact ⟨k + 1, hlt, by go_num, by trivial, HE⟩
          case measure => simp [intOf]; omega
      · have hb' : X.testBit k = false := by simpa using hb
        have e : okTo X (ln s nb) (k + 1) = true := by rw [okTo, HK.out, hb']; rfl
        have HE := hide e
        clear e
        go_wp2_with fail
        refine (has_any X k _ hX hlt).mono ?_
        rintro e w' ⟨rfl, rfl⟩
        rw [hb']
        go_wp2_with fail
        go_roundw
        case rel => exact ⟨k + 1, hlt, by go_num, by trivial, HE⟩
        case measure => simp [intOf]; omega
    · obtain rfl : k = 9 := by omega
      go_wp2_with fail
      go_ret
      rw [HK.out]
      exact ⟨rfl, rfl⟩
end Go.Proofs.Ybulkbvsi
