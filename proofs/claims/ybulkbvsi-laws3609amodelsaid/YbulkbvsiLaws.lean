/-
  WALKS for seat b3609a: the two laws.
-/
import Derived.Test.YbulkbvsiMake
import Derived.ChangeKeysEq
namespace Go.Proofs.Ybulkbvsi
open Go.ChangeShapes Go.WideShapes Go.ChangeAt Go.RowKit
set_option linter.unusedVariables false

theorem items_same (d : Nat) (xs : Array Value) (w : World) : ∀ is : List Nat, (∀ i ∈ is, ∃ s : ByteArray, xs[i * Yba.prog.cellsOf 9]? = some (.string s)) → (Op.eqItems (d + 1) 9 (Yba.prog.cellsOf 9) xs xs is).run Yba.prog w = .ok true w
  | [], _ => by simp [Op.eqItems]
  | i :: is, h => by
    obtain ⟨s, hs⟩ := h i (List.mem_cons_self ..)
    have hp : (part 9 xs (i * Yba.prog.cellsOf 9)).run Yba.prog w = .ok (.string s) w := run_part_plain w (by kernel_rfl) hs
    have he : (Op.equalIn (d + 1) 9 (.string s) (.string s)).run Yba.prog w = .ok true w := by
      rw [run_equalIn_string w d 9 s s Yba.underlying9]
      simp
    simp only [Op.eqItems, Sem.run_bind, hp, Result.andThen_ok, he]
    simpa using items_same d xs w is (fun j hj => h j (List.mem_cons_of_mem _ hj))
theorem info9 : ∃ i, Yba.prog.info? 9 = some i := by
  cases h : Yba.prog.info? 9 with
  | none => have h2 : (Yba.prog.info? 9).isSome = true := by kernel_rfl
            rw [h] at h2; cases h2
  | some i => exact ⟨i, rfl⟩
theorem texts_same (s : Nat → ByteArray) (w : World) : (Op.equalIn 10000 26 (.agg #[.string (s 0), .string (s 1), .string (s 2), .string (s 3), .string (s 4), .string (s 5), .string (s 6), .string (s 7), .string (s 8)])
    (.agg #[.string (s 0), .string (s 1), .string (s 2), .string (s 3), .string (s 4), .string (s 5), .string (s 6), .string (s 7), .string (s 8)])).run Yba.prog w = .ok true w := by
  obtain ⟨i, hi⟩ := info9
  have hu : Yba.prog.underlying 26 = some (.array 9 9) := Yba.underlying26
  rw [run_equalIn_array w 9999 _ _ hu hi]
  refine items_same 9998 _ w _ fun j hj => ?_
  have h1 : Yba.prog.cellsOf 9 = 1 := by kernel_rfl
  rw [h1, Nat.mul_one]
  have := List.mem_range.1 hj
  obtain rfl | rfl | rfl | rfl | rfl | rfl | rfl | rfl | rfl : j = 0 ∨ j = 1 ∨ j = 2 ∨ j = 3 ∨ j = 4 ∨ j = 5 ∨ j = 6 ∨ j = 7 ∨ j = 8 := by omega
  all_goals exact ⟨_, rfl⟩

theorem Lies.below {w w' : World} {a : Option Addr} {n : Nat} {v : Nat → Value} (h : Lies w a n v) (hb : Below w.heap.size w w') : Lies w' a n v := by
  rcases h with h | ⟨b, o, ha, hlt, hc⟩
  · exact .inl h
  · exact .inr ⟨b, o, ha, Nat.lt_of_lt_of_le hlt hb.size, fun i hi => (hb.cell hlt).trans (hc i hi)⟩

set_option maxHeartbeats 800000 in
theorem union_any (a : Option Addr) (n c : Nat) (s : Nat → ByteArray) (ab : Option Addr) (nb cb : Nat) (a1 : Option Addr) (n1 c1 : Nat) (B1 : Nat → Bool) (a2 : Option Addr) (n2 c2 : Nat) (B2 : Nat → Bool) (h1 h2 : Nat) (w : World)
    (hn : n ≤ 9223372036854775807) (hn1 : n1 ≤ 9223372036854775807) (hn2 : n2 ≤ 9223372036854775807) (hh1 : h1 < 18446744073709551616) (hh2 : h2 < 18446744073709551616)
    (l0 : Lies w a n (fun i => .string (s i))) (l1 : Lies w a1 n1 (fun i => .bool (B1 i))) (l2 : Lies w a2 n2 (fun i => .bool (B2 i))) :
    Calls Yba.prog 4 #[.slice a n c, .slice ab nb cb, .slice a1 n1 c1, .slice a2 n2 c2, .int .u64 h1, .int .u64 h2] w fun e w' => e = .returned (.bool true) ∧ Below w.heap.size w w' := by
  have L0 := hide l0
  have L1 := hide l1
  have L2 := hide l2
  clear l0 l1 l2
  go_enter Yba.func4, Yba.ntmps4
  go_wp2_with fail
  refine (build_any a n c s ab nb cb _ hn L0.out).mono ?_
  rintro e w1 ⟨t, rfl, hb⟩
  have hB : Hid (Below w.heap.size w (w1.alloc (Obj.cells #[.string (t 0), .string (t 1), .string (t 2), .string (t 3), .string (t 4), .string (t 5), .string (t 6), .string (t 7), .string (t 8), .slice ab nb cb, .int .u64 0] 29))) := hb.alloc hb.size _
  have hV : Hid (Vals (w1.alloc (Obj.cells #[.string (t 0), .string (t 1), .string (t 2), .string (t 3), .string (t 4), .string (t 5), .string (t 6), .string (t 7), .string (t 8), .slice ab nb cb, .int .u64 0] 29)) w1.heap.size t (.slice ab nb cb)) := heap_alloc_new _ _
  clear hb
  go_wp2_with fail
  generalize w1.heap.size = V at *
  generalize w1.alloc (Obj.cells #[.string (t 0), .string (t 1), .string (t 2), .string (t 3), .string (t 4), .string (t 5), .string (t 6), .string (t 7), .string (t 8), .slice ab nb cb, .int .u64 0] 29) = w2 at *
  refine (set_any a1 n1 c1 B1 h1 w2 hn1 hh1 (L1.out.below hB.out)).mono ?_
  rintro e w' ⟨X, hX, rfl, rfl⟩
  go_wp2_with fail
  refine (set_any a2 n2 c2 B2 h2 w' hn2 hh2 (L2.out.below hB.out)).mono ?_
  rintro e w' ⟨Y, hY, rfl, rfl⟩
  go_wp2_with fail
  refine (hasAll_any V t ab nb cb 0 _ (by decide) hV.out).mono ?_
  rintro e w' ⟨rfl, rfl⟩
  rw [ok_none]
  go_wp2_with fail
  rw [u64_or_nat X Y hX hY]
  refine (hasAll_any V t ab nb cb (X ||| Y) _ (Nat.or_lt_two_pow (n := 64) hX hY) hV.out).mono ?_
  rintro e w' ⟨rfl, rfl⟩
  go_wp2_with fail
  refine (hasAll_any V t ab nb cb X _ hX hV.out).mono ?_
  rintro e w' ⟨rfl, rfl⟩
  rw [ok_or]
  cases hx : okTo X (ln t nb) 9 with
  | false =>
    go_wp2_with fail
    go_ret
    exact ⟨rfl, hB.out⟩
  | true =>
    go_wp2_with fail
    refine (hasAll_any V t ab nb cb Y _ hY hV.out).mono ?_
    rintro e w' ⟨rfl, rfl⟩
    go_wp2_with fail
    go_ret
    exact ⟨by simp, hB.out⟩

theorem sh_bit (X f : Nat) (Y : Nat) (hX : X < 18446744073709551616) (hY : Y = 2 ^ f) : (bits .and .u64 ((X : Int) / (Y : Int)) 1 == 1) = X.testBit f := by
  have h1 : (X : Int) / (Y : Int) = ((X / Y : Nat) : Int) := rfl
  have h2 : X / Y < 18446744073709551616 := Nat.lt_of_le_of_lt (Nat.div_le_self _ _) hX
  rw [h1, show (1 : Int) = ((1 : Nat) : Int) from rfl, u64_and_nat (X / Y) 1 h2 (by decide), Nat.and_one_is_mod, hY, Nat.testBit_eq_decide_div_mod_eq]
  by_cases h : X / 2 ^ f % 2 = 1
  · rw [decide_eq_true h, h]; rfl
  · rw [decide_eq_false h]
    have : X / 2 ^ f % 2 = 0 := by omega
    rw [this]; rfl
theorem sh_bit0 (X : Nat) (hX : X < 18446744073709551616) : (bits .and .u64 (X : Int) 1 == 1) = X.testBit 0 := by
  have h := sh_bit X 0 1 hX rfl
  rwa [show (X : Int) / ((1 : Nat) : Int) = (X : Int) from Int.ediv_one _] at h
theorem ok_bad {X : Nat} {L : Nat → Nat} {k : Nat} (hb : X.testBit k = true) (hl : L k = 0) : okTo X L (k + 1) = false := by rw [okTo, hb, hl]; simp
theorem ok_good {X : Nat} {L : Nat → Nat} {k : Nat} (h : X.testBit k = false ∨ ¬ L k = 0) : okTo X L (k + 1) = okTo X L k := by
  rw [okTo]
  rcases h with h | h
  · rw [h]; simp
  · simp [h]

set_option maxHeartbeats 800000 in
theorem model_any (a : Option Addr) (n c : Nat) (s : Nat → ByteArray) (ab : Option Addr) (nb cb : Nat) (a1 : Option Addr) (n1 c1 : Nat) (B1 : Nat → Bool) (h1 : Nat) (w : World)
    (hn : n ≤ 9223372036854775807) (hn1 : n1 ≤ 9223372036854775807) (hh1 : h1 < 18446744073709551616)
    (l0 : Lies w a n (fun i => .string (s i))) (l1 : Lies w a1 n1 (fun i => .bool (B1 i))) :
    Calls Yba.prog 3 #[.slice a n c, .slice ab nb cb, .slice a1 n1 c1, .int .u64 h1] w fun e w' => e = .returned (.bool true) ∧ Below w.heap.size w w' := by
  have L0 := hide l0
  have L1 := hide l1
  clear l0 l1
  go_enter Yba.func3, Yba.ntmps3
  go_wp2_with fail
  refine (build_any a n c s ab nb cb _ hn L0.out).mono ?_
  rintro e w1 ⟨t, rfl, hb⟩
  have hB : Hid (Below w.heap.size w ((w1.alloc (Obj.cells #[.string (t 0), .string (t 1), .string (t 2), .string (t 3), .string (t 4), .string (t 5), .string (t 6), .string (t 7), .string (t 8), .slice ab nb cb, .int .u64 0] 29)).alloc (Obj.cells #[.string (t 0), .string (t 1), .string (t 2), .string (t 3), .string (t 4), .string (t 5), .string (t 6), .string (t 7), .string (t 8), .slice ab nb cb, .int .u64 0] 29))) := (hb.alloc hb.size _).alloc (by have := hb.size; simp; omega) _
  have hV : Hid (Vals ((w1.alloc (Obj.cells #[.string (t 0), .string (t 1), .string (t 2), .string (t 3), .string (t 4), .string (t 5), .string (t 6), .string (t 7), .string (t 8), .slice ab nb cb, .int .u64 0] 29)).alloc (Obj.cells #[.string (t 0), .string (t 1), .string (t 2), .string (t 3), .string (t 4), .string (t 5), .string (t 6), .string (t 7), .string (t 8), .slice ab nb cb, .int .u64 0] 29)) w1.heap.size t (.slice ab nb cb)) := (Below.heap_alloc _ _ _ (by simp)).trans (heap_alloc_new _ _)
  have hV2 : Hid (Vals ((w1.alloc (Obj.cells #[.string (t 0), .string (t 1), .string (t 2), .string (t 3), .string (t 4), .string (t 5), .string (t 6), .string (t 7), .string (t 8), .slice ab nb cb, .int .u64 0] 29)).alloc (Obj.cells #[.string (t 0), .string (t 1), .string (t 2), .string (t 3), .string (t 4), .string (t 5), .string (t 6), .string (t 7), .string (t 8), .slice ab nb cb, .int .u64 0] 29)) (w1.heap.size + 1) t (.slice ab nb cb)) := alloc_two (heap_alloc_new _ _)
  clear hb
  go_wp2_with fail
  generalize w1.heap.size = V at *
  generalize (w1.alloc (Obj.cells #[.string (t 0), .string (t 1), .string (t 2), .string (t 3), .string (t 4), .string (t 5), .string (t 6), .string (t 7), .string (t 8), .slice ab nb cb, .int .u64 0] 29)).alloc (Obj.cells #[.string (t 0), .string (t 1), .string (t 2), .string (t 3), .string (t 4), .string (t 5), .string (t 6), .string (t 7), .string (t 8), .slice ab nb cb, .int .u64 0] 29) = w2 at *
  refine (set_any a1 n1 c1 B1 h1 w2 hn1 hh1 (L1.out.below hB.out)).mono ?_
  rintro e w' ⟨X, hX, rfl, rfl⟩
  go_wp2_with fail
  refine (hasAll_any V t ab nb cb X _ hX hV.out).mono ?_
  rintro e w2 ⟨rfl, rfl⟩
  go_wp2_with fail
  go_loopw [13, 14] (fun wv iv wr => ∃ k : Nat, k ≤ 9 ∧ iv = .int .u64 (k : Nat) ∧ wv = .bool (okTo X (ln t nb) k) ∧ wr = w2) (fun _ iv _ => 9 - (intOf iv).toNat)
  case atStart => exact ⟨0, by omega, rfl, rfl, rfl⟩
  case round =>
    obtain ⟨k, hk, rfl, rfl, rfl⟩ := hrel
    by_cases hlt : k < 9
    · have hc := hV.out.cell k hlt
      obtain rfl | rfl | rfl | rfl | rfl | rfl | rfl | rfl | rfl : k = 0 ∨ k = 1 ∨ k = 2 ∨ k = 3 ∨ k = 4 ∨ k = 5 ∨ k = 6 ∨ k = 7 ∨ k = 8 := by omega
      · have hs : (bits .and .u64 (X : Int) 1 == 1) = X.testBit 0 := sh_bit0 X hX
        by_cases hb : X.testBit 0 = true
        · rw [hb] at hs
          by_cases hl : (t 0).size = 0
          · have hl' : (((t 0).size : Nat) : Int) = 0 := by omega
            have HE : Hid (okTo X (ln t nb) 1 = false) := ok_bad hb (show ln t nb 0 = 0 from hl)
            clear hl
            go_wp2_with fail
            go_roundw
            case rel => exact ⟨1, by omega, rfl, by rw [HE.out], trivial⟩
            case measure => simp [intOf]
          · have hl' : ¬ (((t 0).size : Nat) : Int) = 0 := by omega
            have HE : Hid (okTo X (ln t nb) 1 = okTo X (ln t nb) 0) := ok_good (.inr (show ¬ ln t nb 0 = 0 from hl))
            clear hl
            go_wp2_with fail
            go_roundw
            case rel => exact ⟨1, by omega, rfl, by rw [HE.out], trivial⟩
            case measure => simp [intOf]
        · have hb' : X.testBit 0 = false := by simpa using hb
          rw [hb'] at hs
          have HE : Hid (okTo X (ln t nb) 1 = okTo X (ln t nb) 0) := ok_good (.inl hb')
          go_wp2_with fail
          go_roundw
          case rel => exact ⟨1, by omega, rfl, by rw [HE.out], trivial⟩
          case measure => simp [intOf]
      · have hs : (bits .and .u64 ((X : Int) / 2) 1 == 1) = X.testBit 1 := sh_bit X 1 2 hX rfl
        by_cases hb : X.testBit 1 = true
        · rw [hb] at hs
          by_cases hl : (t 1).size = 0
          · have hl' : (((t 1).size : Nat) : Int) = 0 := by omega
            have HE : Hid (okTo X (ln t nb) 2 = false) := ok_bad hb (show ln t nb 1 = 0 from hl)
            clear hl
            go_wp2_with fail
            go_roundw
            case rel => exact ⟨2, by omega, rfl, by rw [HE.out], trivial⟩
            case measure => simp [intOf]
          · have hl' : ¬ (((t 1).size : Nat) : Int) = 0 := by omega
            have HE : Hid (okTo X (ln t nb) 2 = okTo X (ln t nb) 1) := ok_good (.inr (show ¬ ln t nb 1 = 0 from hl))
            clear hl
            go_wp2_with fail
            go_roundw
            case rel => exact ⟨2, by omega, rfl, by rw [HE.out], trivial⟩
            case measure => simp [intOf]
        · have hb' : X.testBit 1 = false := by simpa using hb
          rw [hb'] at hs
          have HE : Hid (okTo X (ln t nb) 2 = okTo X (ln t nb) 1) := ok_good (.inl hb')
          go_wp2_with fail
          go_roundw
          case rel => exact ⟨2, by omega, rfl, by rw [HE.out], trivial⟩
          case measure => simp [intOf]
      · have hs : (bits .and .u64 ((X : Int) / 4) 1 == 1) = X.testBit 2 := sh_bit X 2 4 hX rfl
        by_cases hb : X.testBit 2 = true
        · rw [hb] at hs
          by_cases hl : (t 2).size = 0
          · have hl' : (((t 2).size : Nat) : Int) = 0 := by omega
            have HE : Hid (okTo X (ln t nb) 3 = false) := ok_bad hb (show ln t nb 2 = 0 from hl)
            clear hl
            go_wp2_with fail
            go_roundw
            case rel => exact ⟨3, by omega, rfl, by rw [HE.out], trivial⟩
            case measure => simp [intOf]
          · have hl' : ¬ (((t 2).size : Nat) : Int) = 0 := by omega
            have HE : Hid (okTo X (ln t nb) 3 = okTo X (ln t nb) 2) := ok_good (.inr (show ¬ ln t nb 2 = 0 from hl))
            clear hl
            go_wp2_with fail
            go_roundw
            case rel => exact ⟨3, by omega, rfl, by rw [HE.out], trivial⟩
            case measure => simp [intOf]
        · have hb' : X.testBit 2 = false := by simpa using hb
          rw [hb'] at hs
          have HE : Hid (okTo X (ln t nb) 3 = okTo X (ln t nb) 2) := ok_good (.inl hb')
          go_wp2_with fail
          go_roundw
          case rel => exact ⟨3, by omega, rfl, by rw [HE.out], trivial⟩
          case measure => simp [intOf]
      · have hs : (bits .and .u64 ((X : Int) / 8) 1 == 1) = X.testBit 3 := sh_bit X 3 8 hX rfl
        by_cases hb : X.testBit 3 = true
        · rw [hb] at hs
          by_cases hl : (t 3).size = 0
          · have hl' : (((t 3).size : Nat) : Int) = 0 := by omega
            have HE : Hid (okTo X (ln t nb) 4 = false) := ok_bad hb (show ln t nb 3 = 0 from hl)
            clear hl
            go_wp2_with fail
            go_roundw
            case rel => exact ⟨4, by omega, rfl, by rw [HE.out], trivial⟩
            case measure => simp [intOf]
          · have hl' : ¬ (((t 3).size : Nat) : Int) = 0 := by omega
            have HE : Hid (okTo X (ln t nb) 4 = okTo X (ln t nb) 3) := ok_good (.inr (show ¬ ln t nb 3 = 0 from hl))
            clear hl
            go_wp2_with fail
            go_roundw
            case rel => exact ⟨4, by omega, rfl, by rw [HE.out], trivial⟩
            case measure => simp [intOf]
        · have hb' : X.testBit 3 = false := by simpa using hb
          rw [hb'] at hs
          have HE : Hid (okTo X (ln t nb) 4 = okTo X (ln t nb) 3) := ok_good (.inl hb')
          go_wp2_with fail
          go_roundw
          case rel => exact ⟨4, by omega, rfl, by rw [HE.out], trivial⟩
          case measure => simp [intOf]
      · have hs : (bits .and .u64 ((X : Int) / 16) 1 == 1) = X.testBit 4 := sh_bit X 4 16 hX rfl
        by_cases hb : X.testBit 4 = true
        · rw [hb] at hs
          by_cases hl : (t 4).size = 0
          · have hl' : (((t 4).size : Nat) : Int) = 0 := by omega
            have HE : Hid (okTo X (ln t nb) 5 = false) := ok_bad hb (show ln t nb 4 = 0 from hl)
            clear hl
            go_wp2_with fail
            go_roundw
            case rel => exact ⟨5, by omega, rfl, by rw [HE.out], trivial⟩
            case measure => simp [intOf]
          · have hl' : ¬ (((t 4).size : Nat) : Int) = 0 := by omega
            have HE : Hid (okTo X (ln t nb) 5 = okTo X (ln t nb) 4) := ok_good (.inr (show ¬ ln t nb 4 = 0 from hl))
            clear hl
            go_wp2_with fail
            go_roundw
            case rel => exact ⟨5, by omega, rfl, by rw [HE.out], trivial⟩
            case measure => simp [intOf]
        · have hb' : X.testBit 4 = false := by simpa using hb
          rw [hb'] at hs
          have HE : Hid (okTo X (ln t nb) 5 = okTo X (ln t nb) 4) := ok_good (.inl hb')
          go_wp2_with fail
          go_roundw
          case rel => exact ⟨5, by omega, rfl, by rw [HE.out], trivial⟩
          case measure => simp [intOf]
      · have hs : (bits .and .u64 ((X : Int) / 32) 1 == 1) = X.testBit 5 := sh_bit X 5 32 hX rfl
        by_cases hb : X.testBit 5 = true
        · rw [hb] at hs
          by_cases hl : (t 5).size = 0
          · have hl' : (((t 5).size : Nat) : Int) = 0 := by omega
            have HE : Hid (okTo X (ln t nb) 6 = false) := ok_bad hb (show ln t nb 5 = 0 from hl)
            clear hl
            go_wp2_with fail
            go_roundw
            case rel => exact ⟨6, by omega, rfl, by rw [HE.out], trivial⟩
            case measure => simp [intOf]
          · have hl' : ¬ (((t 5).size : Nat) : Int) = 0 := by omega
            have HE : Hid (okTo X (ln t nb) 6 = okTo X (ln t nb) 5) := ok_good (.inr (show ¬ ln t nb 5 = 0 from hl))
            clear hl
            go_wp2_with fail
            go_roundw
            case rel => exact ⟨6, by omega, rfl, by rw [HE.out], trivial⟩
            case measure => simp [intOf]
        · have hb' : X.testBit 5 = false := by simpa using hb
          rw [hb'] at hs
          have HE : Hid (okTo X (ln t nb) 6 = okTo X (ln t nb) 5) := ok_good (.inl hb')
          go_wp2_with fail
          go_roundw
          case rel => exact ⟨6, by omega, rfl, by rw [HE.out], trivial⟩
          case measure => simp [intOf]
      · have hs : (bits .and .u64 ((X : Int) / 64) 1 == 1) = X.testBit 6 := sh_bit X 6 64 hX rfl
        by_cases hb : X.testBit 6 = true
        · rw [hb] at hs
          by_cases hl : (t 6).size = 0
          · have hl' : (((t 6).size : Nat) : Int) = 0 := by omega
            have HE : Hid (okTo X (ln t nb) 7 = false) := ok_bad hb (show ln t nb 6 = 0 from hl)
            clear hl
            go_wp2_with fail
            go_roundw
            case rel => exact ⟨7, by omega, rfl, by rw [HE.out], trivial⟩
            case measure => simp [intOf]
          · have hl' : ¬ (((t 6).size : Nat) : Int) = 0 := by omega
            have HE : Hid (okTo X (ln t nb) 7 = okTo X (ln t nb) 6) := ok_good (.inr (show ¬ ln t nb 6 = 0 from hl))
            clear hl
            go_wp2_with fail
            go_roundw
            case rel => exact ⟨7, by omega, rfl, by rw [HE.out], trivial⟩
            case measure => simp [intOf]
        · have hb' : X.testBit 6 = false := by simpa using hb
          rw [hb'] at hs
          have HE : Hid (okTo X (ln t nb) 7 = okTo X (ln t nb) 6) := ok_good (.inl hb')
          go_wp2_with fail
          go_roundw
          case rel => exact ⟨7, by omega, rfl, by rw [HE.out], trivial⟩
          case measure => simp [intOf]
      · have hs : (bits .and .u64 ((X : Int) / 128) 1 == 1) = X.testBit 7 := sh_bit X 7 128 hX rfl
        by_cases hb : X.testBit 7 = true
        · rw [hb] at hs
          by_cases hl : nb = 0
          · have hl' : ((nb : Nat) : Int) = 0 := by omega
            have HE : Hid (okTo X (ln t nb) 8 = false) := ok_bad hb (show ln t nb 7 = 0 from hl)
            clear hl
            go_wp2_with fail
            go_roundw
            case rel => exact ⟨8, by omega, rfl, by rw [HE.out], trivial⟩
            case measure => simp [intOf]
          · have hl' : ¬ ((nb : Nat) : Int) = 0 := by omega
            have HE : Hid (okTo X (ln t nb) 8 = okTo X (ln t nb) 7) := ok_good (.inr (show ¬ ln t nb 7 = 0 from hl))
            clear hl
            go_wp2_with fail
            go_roundw
            case rel => exact ⟨8, by omega, rfl, by rw [HE.out], trivial⟩
            case measure => simp [intOf]
        · have hb' : X.testBit 7 = false := by simpa using hb
          rw [hb'] at hs
          have HE : Hid (okTo X (ln t nb) 8 = okTo X (ln t nb) 7) := ok_good (.inl hb')
          go_wp2_with fail
          go_roundw
          case rel => exact ⟨8, by omega, rfl, by rw [HE.out], trivial⟩
          case measure => simp [intOf]
      · have hs : (bits .and .u64 ((X : Int) / 256) 1 == 1) = X.testBit 8 := sh_bit X 8 256 hX rfl
        by_cases hb : X.testBit 8 = true
        · rw [hb] at hs
          by_cases hl : (t 8).size = 0
          · have hl' : (((t 8).size : Nat) : Int) = 0 := by omega
            have HE : Hid (okTo X (ln t nb) 9 = false) := ok_bad hb (show ln t nb 8 = 0 from hl)
            clear hl
            go_wp2_with fail
            go_roundw
            case rel => exact ⟨9, by omega, rfl, by rw [HE.out], trivial⟩
            case measure => simp [intOf]
          · have hl' : ¬ (((t 8).size : Nat) : Int) = 0 := by omega
            have HE : Hid (okTo X (ln t nb) 9 = okTo X (ln t nb) 8) := ok_good (.inr (show ¬ ln t nb 8 = 0 from hl))
            clear hl
            go_wp2_with fail
            go_roundw
            case rel => exact ⟨9, by omega, rfl, by rw [HE.out], trivial⟩
            case measure => simp [intOf]
        · have hb' : X.testBit 8 = false := by simpa using hb
          rw [hb'] at hs
          have HE : Hid (okTo X (ln t nb) 9 = okTo X (ln t nb) 8) := ok_good (.inl hb')
          go_wp2_with fail
          go_roundw
          case rel => exact ⟨9, by omega, rfl, by rw [HE.out], trivial⟩
          case measure => simp [intOf]
    · obtain rfl : k = 9 := by omega
      have g9 := hV.out.body.1
      have g10 := hV.out.body.2
      have g0 := hV.out.cell 0 (by omega)
      have g1 := hV.out.cell 1 (by omega)
      have g2 := hV.out.cell 2 (by omega)
      have g3 := hV.out.cell 3 (by omega)
      have g4 := hV.out.cell 4 (by omega)
      have g5 := hV.out.cell 5 (by omega)
      have g6 := hV.out.cell 6 (by omega)
      have g7 := hV.out.cell 7 (by omega)
      have g8 := hV.out.cell 8 (by omega)
      have k0 := hV2.out.cell 0 (by omega)
      have k1 := hV2.out.cell 1 (by omega)
      have k2 := hV2.out.cell 2 (by omega)
      have k3 := hV2.out.cell 3 (by omega)
      have k4 := hV2.out.cell 4 (by omega)
      have k5 := hV2.out.cell 5 (by omega)
      have k6 := hV2.out.cell 6 (by omega)
      have k7 := hV2.out.cell 7 (by omega)
      have k8 := hV2.out.cell 8 (by omega)
      have k9 := hV2.out.body.1
      have k10 := hV2.out.body.2
      have heq := texts_same t wr
      go_wp2_with fail
      go_simp
      go_wp2_with fail
      go_ret
      exact ⟨by simp, hB.out⟩
end Go.Proofs.Ybulkbvsi
