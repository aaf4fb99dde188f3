/-
  WALKS for seat b3605a: slices.Equal and match at states; LawS3605BClosed.
-/
import Derived.Test.YbulkbvqeBrun
import Derived.Test.YbulkbvqeExec2
namespace Go.Proofs.Ybulkbvqe
open Go.ChangeShapes Go.WideShapes Go.ChangeAt Go.RowKit
set_option linter.unusedVariables false

set_option maxHeartbeats 400000 in
/-- Two slices with the same state are equal. -/
theorem equal4 (a b c d : Nat) (s : List Int) (w : World) (hl : s.length = 4) (ha : St w a s) (hb : St w b s) :
    Calls Yba.prog 8 #[.slice (some ⟨a, 0, none⟩) 4 c, .slice (some ⟨b, 0, none⟩) 4 d] w fun e w' => e = .returned (.bool true) ∧ ∃ q, w' = w.drewN q := by
  have HA := hide ha
  have HB := hide hb
  clear ha hb
  go_enter Yba.func8, Yba.ntmps8
  go_wp2_with fail
  go_loopw [13] (fun iv wr => ∃ k : Nat, k ≤ 4 ∧ iv = .int .i64 (k : Nat) ∧ ∃ q, wr = w.drewN q) (fun iv _ => 4 - (intOf iv).toNat)
  case atStart => exact ⟨0, by omega, rfl, 0, rfl⟩
  case round =>
    obtain ⟨k, hk, rfl, q, rfl⟩ := hrel
    by_cases hlt : k < 4
    · have hlt' : (k : Int) < 4 := by omega
      have g1 := (HA.out.cell k (by omega)).1
      have g2 := (HB.out.cell k (by omega)).1
      generalize s.getD k 0 = x at g1 g2
      go_wp2_with fail
      go_quiet (fail)
      go_wp2_with fail
      go_roundw
      case rel => exact ⟨k + 1, by omega, by go_num, _, rfl⟩
      case measure => simp [intOf]; omega
    · obtain rfl : k = 4 := by omega
      go_wp2_with fail
      go_ret
      exact ⟨rfl, q, rfl⟩

/-- e matches x. -/
def mtTo (e x : List Int) : Nat → Bool
  | 0 => true
  | k + 1 => mtTo e x k && (e.getD k 0 == -1 || e.getD k 0 == x.getD k 0)
theorem mtTo_false {e x : List Int} {k : Nat} (h : mtTo e x k = false) : ∀ d, mtTo e x (k + d) = false
  | 0 => h
  | d + 1 => by rw [← Nat.add_assoc, mtTo, mtTo_false h d]; rfl

set_option maxHeartbeats 400000 in
theorem match4 (a b c d : Nat) (s x : List Int) (w : World) (hl : s.length = 4) (hx : x.length = 4) (ha : St w a s) (hb : St w b x) :
    Calls Yba.prog 9 #[.slice (some ⟨a, 0, none⟩) 4 c, .slice (some ⟨b, 0, none⟩) 4 d] w fun e w' => e = .returned (.bool (mtTo s x 4)) ∧ ∃ q, w' = w.drewN q := by
  have HA := hide ha
  have HB := hide hb
  clear ha hb
  go_enter Yba.func9, Yba.ntmps9
  go_wp2_with fail
  go_loopw [5] (fun iv wr => ∃ k : Nat, k ≤ 4 ∧ iv = .int .i64 (k : Nat) ∧ Hid (mtTo s x k = true) ∧ ∃ q, wr = w.drewN q) (fun iv _ => 4 - (intOf iv).toNat)
  case atStart => exact ⟨0, by omega, rfl, rfl, 0, rfl⟩
  case round =>
    obtain ⟨k, hk, rfl, HK, q, rfl⟩ := hrel
    by_cases hlt : k < 4
    · have hlt' : (k : Int) < 4 := by omega
      have g1 := (HA.out.cell k (by omega)).1
      have g2 := (HB.out.cell k (by omega)).1
      obtain ⟨X, hX⟩ : ∃ X, X = s.getD k 0 := ⟨_, rfl⟩
      obtain ⟨Y, hY⟩ : ∃ Y, Y = x.getD k 0 := ⟨_, rfl⟩
      rw [← hX] at g1
      rw [← hY] at g2
      have HX := hide hX
      have HY := hide hY
      clear hX hY
      by_cases h1 : X = -1
      · have HE : Hid (mtTo s x (k + 1) = true) := by
          have h := HX.out
          show mtTo s x (k + 1) = true
          rw [mtTo, HK.out, ← h, h1]; rfl
        subst h1
        go_wp2_with fail
        go_quiet (fail)
        go_wp2_with fail
        go_roundw
        case rel => exact ⟨k + 1, by omega, by go_num, HE, _, rfl⟩
        case measure => simp [intOf]; omega
      · have h1' : (X == -1) = false := by simpa using h1
        by_cases h2 : X = Y
        · have HE : Hid (mtTo s x (k + 1) = true) := by
            show mtTo s x (k + 1) = true
            rw [mtTo, HK.out, ← HX.out, ← HY.out, h2]; simp
          subst h2
          go_wp2_with fail
          go_quiet (fail)
          go_wp2_with fail
          go_roundw
          case rel => exact ⟨k + 1, by omega, by go_num, HE, _, rfl⟩
          case measure => simp [intOf]; omega
        · have h2' : (X == Y) = false := by simpa using h2
          have h2b : (X != Y) = true := by simpa using h2
          have h1b : (X != -1) = true := by simpa using h1
          have HE : Hid (mtTo s x 4 = false) := by
            have e : mtTo s x (k + 1) = false := by rw [mtTo, HK.out, ← HX.out, ← HY.out, h1', h2']; rfl
            have := mtTo_false e (4 - (k + 1))
            rwa [show k + 1 + (4 - (k + 1)) = 4 by omega] at this
          go_wp2_with fail
          go_quiet (fail)
          go_wp2_with fail
          go_ret
          rw [HE.out]
          exact ⟨rfl, _, World.drewN_drewN _ _ _⟩
    · obtain rfl : k = 4 := by omega
      go_wp2_with fail
      go_ret
      rw [HK.out]
      exact ⟨rfl, q, rfl⟩

/-- The bytes that came in. -/
def InAt (w : World) (a : Option Addr) (n : Nat) (z : Nat → Int) : Prop := n = 0 ∨ ∃ b o, a = some ⟨b, o, none⟩ ∧ b < w.heap.size ∧ ∀ i, i < n → w.cell? ⟨b, o + i, none⟩ = some (.int .u8 (z i))

/-- A closed state. -/
def Shut (s : List Int) : Prop := s.length = 4 ∧ ∀ v ∈ s, 0 ≤ v ∧ v ≤ 2
theorem Shut.set {s : List Int} (h : Shut s) (c : Nat) {v : Int} (hv : 0 ≤ v ∧ v ≤ 2) : Shut (s.set c v) := by
  refine ⟨by simp [h.1], fun u hu => ?_⟩
  rcases List.mem_or_eq_of_mem_set hu with hu | rfl
  · exact h.2 u hu
  · exact hv

theorem make4 (w : World) : (Instr.makeSlice 24 (.int .i64 4) (.int .i64 4)).run Yba.prog w = .ok (.slice (some ⟨w.heap.size, 0, none⟩) 4 4) (w.alloc (.cells #[.int .i32 0, .int .i32 0, .int .i32 0, .int .i32 0] 21)) := by kernel_rfl

/-- Where the making of the state stands. -/
structure Mk (w wr : World) (P : List Int → Prop) : Prop where
  ex : ∃ s, P s ∧ St wr w.heap.size s
  bel : Below w.heap.size w wr
theorem Mk.start (w : World) {P : List Int → Prop} (h : P [0, 0, 0, 0]) : Mk w (w.alloc (.cells #[.int .i32 0, .int .i32 0, .int .i32 0, .int .i32 0] 21)) P := ⟨⟨_, h, [], heap_alloc_new _ _⟩, (Below.refl _ _).alloc (Nat.le_refl _) _⟩
theorem Mk.store {w wr : World} {P : List Int → Prop} (h : Mk w wr P) {k : Nat} {v : Int} (hk : k < 4) (hl : ∀ s, P s → s.length = 4) (hP : ∀ s, P s → P (s.set k v)) : Mk w (wr.setCell ⟨w.heap.size, k, none⟩ (.int .i32 v)) P := by
  obtain ⟨s, hs, hS⟩ := h.ex
  exact ⟨⟨_, hP s hs, hS.store k (by rw [hl s hs]; exact hk) v⟩, h.bel.setCell (Nat.le_refl _) _⟩
theorem Mk.cell {w wr : World} {P : List Int → Prop} (h : Mk w wr P) {k : Nat} (hk : k < 4) (hl : ∀ s, P s → s.length = 4) : ∃ x, wr.cell? ⟨w.heap.size, k, none⟩ = some (.int .i32 x) ∧ wr.frozen? ⟨w.heap.size, k, none⟩ = false := by
  obtain ⟨s, hs, hS⟩ := h.ex
  obtain ⟨h1, h2⟩ := hS.cell k (by rw [hl s hs]; exact hk)
  exact ⟨_, h1, h2⟩

theorem below_drewN {B : Nat} {a w : World} (h : Below B a w) (n : Nat) : Below B a (w.drewN n) := h.trans ⟨rfl, rfl, rfl, Nat.le_refl _, fun _ _ => rfl⟩
theorem shut_ok {s : List Int} (h : Shut s) : Ok s := ⟨h.1, fun v hv => by have := h.2 v hv; omega⟩
theorem ops_ne {w : World} {ao : Option Addr} {n : Nat} {ops : Nat → O5} {xb : Nat} (h : OpsAt w ao n ops) (hx : w.heap.size ≤ xb) : ∀ b o, ao = some ⟨b, o, none⟩ → n ≠ 0 → b ≠ xb := fun b o ha hn => by
  rcases h with h | ⟨b', o', h1, h2, _⟩
  · exact (hn h).elim
  · rw [ha] at h1
    cases h1
    omega
theorem bel_chain {w wr w1 w2 w3 : World} {xb : Nat} (hB : Below w.heap.size w wr) (hg1 : wr.grownBy w1 none) (hg2 : w1.grownBy w2 (some xb)) (hxb : w.heap.size ≤ xb) (hg3 : w2.grownBy w3 (some w.heap.size)) : Below w.heap.size w w3 := by
  have s0 := hB.size
  have s1 := hg1.size
  have s2 := hg2.size
  exact ((hB.grown hg1 s0 (fun k h => by cases h)).grown hg2 (by omega) (fun k h => by cases h; exact hxb)).grown hg3 (by omega) (fun k h => by cases h; exact Nat.le_refl _)
theorem ops_after {w wr w1 w2 : World} {ao : Option Addr} {n : Nat} {ops : Nat → O5} {xb : Nat} (h : OpsAt w ao n ops) (hB : Below w.heap.size w wr) (hg1 : wr.grownBy w1 none) (hg2 : w1.grownBy w2 (some xb)) (hxb : w.heap.size ≤ xb) : OpsAt w2 ao n ops := by
  have s0 := hB.size
  have s1 := hg1.size
  exact h.below ((hB.grown hg1 s0 (fun k h => by cases h)).grown hg2 (by omega) (fun k h => by cases h; exact hxb))
theorem st_other {w w' : World} {b xb : Nat} {s : List Int} (h : St w b s) (hg : w.grownBy w' (some xb)) (hne : b ≠ xb) : St w' b s := by
  obtain ⟨t, ht⟩ := h
  exact ⟨t, (hg.block b (lt_of_block ht) (fun e => hne (Option.some.inj e))).trans ht⟩
theorem st_grown {w w' : World} {b : Nat} {s : List Int} (h : St w b s) (hg : w.grownBy w' none) : St w' b s := by
  obtain ⟨t, ht⟩ := h
  exact ⟨t, (hg.block b (lt_of_block ht) (by simp)).trans ht⟩
theorem st_after {wr w1 w2 : World} {b xb : Nat} {s : List Int} (h : St wr b s) (hg1 : wr.grownBy w1 none) (hg2 : w1.grownBy w2 (some xb)) (hne : b ≠ xb) : St w2 b s := st_other (st_grown h hg1) hg2 hne

set_option maxHeartbeats 800000 in
theorem closed_small (a0 : Option Addr) (n0 c0 : Nat) (z : Nat → Int) (ao : Option Addr) (n c : Nat) (ops : Nat → O5) (w : World) (hn0 : n0 ≤ 9223372036854775807) (hz : ∀ i, 0 ≤ z i ∧ z i ≤ 255) (hI : InAt w a0 n0 z) (hn : n ≤ 512) (hO : OpsAt w ao n ops) :
    Calls Yba.prog 3 #[.slice a0 n0 c0, .slice ao n c] w fun e w' => e = .returned (.bool true) ∧ Below w.heap.size w w' := by
  have hn' : (n : Int) ≤ 512 := by omega
  have HI := hide hI
  have HO := hide hO
  have HZ := hide hz
  clear hI hO hz
  have hmk := make4 w
  go_enter Yba.func3, Yba.ntmps3
  go_wp2_with fail
  go_simp
  go_wp2_with fail
  clear hmk
  go_loopw [6] (fun iv wr => ∃ k : Nat, k ≤ 4 ∧ iv = .int .i64 (k : Nat) ∧ Hid (Mk w wr Shut)) (fun iv _ => 4 - (intOf iv).toNat)
  case atStart => exact ⟨0, by omega, rfl, Mk.start w ⟨rfl, by decide⟩⟩
  case round =>
    obtain ⟨k, hk, rfl, M⟩ := hrel
    by_cases hlt : k < 4 ∧ k < n0
    · obtain ⟨h4, hlt⟩ := hlt
      have h4' : (k : Int) < 4 := by omega
      have hlt' : (k : Int) < (n0 : Int) := by omega
      obtain h0 | ⟨b, o, rfl, hb, hc⟩ := HI.out
      · omega
      have c1 : wr.cell? ⟨b, o + k, none⟩ = some (.int .u8 (z k)) := (M.out.bel.cell (by exact hb)).trans (hc k hlt)
      obtain ⟨x, c2, f2⟩ := M.out.cell h4 (fun s h => h.1)
      have hzk := HZ.out k
      clear hc
      go_wp2_with fail
      go_roundw
      case rel => exact ⟨k + 1, by omega, by go_num, M.out.store h4 (fun s h => h.1) (fun s h => h.set k (by omega))⟩
      case measure => simp [intOf]; omega
    · obtain ⟨s, hs, hS⟩ := M.out.ex
      have HB := hide M.out.bel
      have HSh := hide hs
      have HS := hide hS
      have HN := hide hlt
      clear M hs hS hlt
      by_cases hk4 : k < 4
      · have hk4' : (k : Int) < 4 := by omega
        have hkn : ¬ (k : Int) < (n0 : Int) := by have := HN.out; omega
        go_wp2_with fail
        refine (clone4 w.heap.size 4 s wr HSh.out.1 HS.out).mono ?_
        rintro e w1 ⟨xb, cx, rfl, hxb, hX, hg1⟩
        have HG1 := hide hg1
        have HX := hide hX
        have hsw := HB.out.size
        have hlt0 : w.heap.size < wr.heap.size := by obtain ⟨t, ht⟩ := HS.out; exact lt_of_block ht
        clear hg1 hX
        go_wp2_with fail
        refine (exec_all ops n w1 ao n c 0 n xb cx s (HO.out.below (HB.out.grown HG1.out hsw (fun k h => by cases h))) (ops_ne HO.out (by omega)) (by omega) (Nat.zero_le _) (Nat.le_refl _) (by omega) HX.out HSh.out.1).mono ?_
        rintro e w2 ⟨hg2, ⟨s2, hr2, rfl, hl2, hS2⟩ | ⟨hr2, rfl⟩⟩
        · have HE : Hid (emits ops n s = [s2]) := by have h := emits_closed ops n HSh.out.1 HSh.out.2; rw [hr2] at h; exact h
          have HG2 := hide hg2
          have HS2 := hide hS2
          clear hg2 hr2 hS2
          go_wp2_with fail
          refine (brun_any w2 w.heap.size 4 s ao n c ops (ops_after HO.out HB.out HG1.out HG2.out (by omega)) (by omega) (st_after HS.out HG1.out HG2.out (by omega)) (shut_ok HSh.out)).mono ?_
          rintro e w3 ⟨lv, rfl, hlog, hg3⟩
          rw [HE.out] at hlog
          obtain ⟨al, cl, rfl, h | ⟨g, rfl, hg, hg', hj⟩⟩ := hlog
          · cases h
          obtain ⟨b, c', hc, hb, hb', hSt⟩ := hj 0 (by simp)
          have HSt : Hid (St w3 b s2) := hSt
          have HX3 : Hid (St w3 xb s2) := st_other HS2.out hg3 (by omega)
          have HBel := hide (bel_chain HB.out HG1.out HG2.out (by omega) hg3)
          clear hj hSt hg3 HE
          simp only [List.length_cons, List.length_nil, Nat.zero_add]
          go_wp2_with fail
          refine (equal4 b xb c' cx s2 w3 hl2 HSt.out HX3.out).mono ?_
          rintro e w4 ⟨rfl, q, rfl⟩
          go_wp2_with fail
          go_ret
          exact ⟨rfl, below_drewN HBel.out q⟩
        · have HE : Hid (emits ops n s = []) := by have h := emits_closed ops n HSh.out.1 HSh.out.2; rw [hr2] at h; exact h
          have HG2 := hide hg2
          clear hg2 hr2
          go_wp2_with fail
          refine (brun_any w2 w.heap.size 4 s ao n c ops (ops_after HO.out HB.out HG1.out HG2.out (by omega)) (by omega) (st_after HS.out HG1.out HG2.out (by omega)) (shut_ok HSh.out)).mono ?_
          rintro e w3 ⟨lv, rfl, hlog, hg3⟩
          rw [HE.out] at hlog
          obtain ⟨al, cl, rfl, _⟩ := hlog
          have HBel := hide (bel_chain HB.out HG1.out HG2.out (by omega) hg3)
          clear hg3 HE
          simp only [List.length_nil]
          go_wp2_with fail
          go_ret
          exact ⟨rfl, HBel.out⟩
      · have hk4' : ¬ (k : Int) < 4 := by omega
        go_wp2_with fail
        refine (clone4 w.heap.size 4 s wr HSh.out.1 HS.out).mono ?_
        rintro e w1 ⟨xb, cx, rfl, hxb, hX, hg1⟩
        have HG1 := hide hg1
        have HX := hide hX
        have hsw := HB.out.size
        have hlt0 : w.heap.size < wr.heap.size := by obtain ⟨t, ht⟩ := HS.out; exact lt_of_block ht
        clear hg1 hX
        go_wp2_with fail
        refine (exec_all ops n w1 ao n c 0 n xb cx s (HO.out.below (HB.out.grown HG1.out hsw (fun k h => by cases h))) (ops_ne HO.out (by omega)) (by omega) (Nat.zero_le _) (Nat.le_refl _) (by omega) HX.out HSh.out.1).mono ?_
        rintro e w2 ⟨hg2, ⟨s2, hr2, rfl, hl2, hS2⟩ | ⟨hr2, rfl⟩⟩
        · have HE : Hid (emits ops n s = [s2]) := by have h := emits_closed ops n HSh.out.1 HSh.out.2; rw [hr2] at h; exact h
          have HG2 := hide hg2
          have HS2 := hide hS2
          clear hg2 hr2 hS2
          go_wp2_with fail
          refine (brun_any w2 w.heap.size 4 s ao n c ops (ops_after HO.out HB.out HG1.out HG2.out (by omega)) (by omega) (st_after HS.out HG1.out HG2.out (by omega)) (shut_ok HSh.out)).mono ?_
          rintro e w3 ⟨lv, rfl, hlog, hg3⟩
          rw [HE.out] at hlog
          obtain ⟨al, cl, rfl, h | ⟨g, rfl, hg, hg', hj⟩⟩ := hlog
          · cases h
          obtain ⟨b, c', hc, hb, hb', hSt⟩ := hj 0 (by simp)
          have HSt : Hid (St w3 b s2) := hSt
          have HX3 : Hid (St w3 xb s2) := st_other HS2.out hg3 (by omega)
          have HBel := hide (bel_chain HB.out HG1.out HG2.out (by omega) hg3)
          clear hj hSt hg3 HE
          simp only [List.length_cons, List.length_nil, Nat.zero_add]
          go_wp2_with fail
          refine (equal4 b xb c' cx s2 w3 hl2 HSt.out HX3.out).mono ?_
          rintro e w4 ⟨rfl, q, rfl⟩
          go_wp2_with fail
          go_ret
          exact ⟨rfl, below_drewN HBel.out q⟩
        · have HE : Hid (emits ops n s = []) := by have h := emits_closed ops n HSh.out.1 HSh.out.2; rw [hr2] at h; exact h
          have HG2 := hide hg2
          clear hg2 hr2
          go_wp2_with fail
          refine (brun_any w2 w.heap.size 4 s ao n c ops (ops_after HO.out HB.out HG1.out HG2.out (by omega)) (by omega) (st_after HS.out HG1.out HG2.out (by omega)) (shut_ok HSh.out)).mono ?_
          rintro e w3 ⟨lv, rfl, hlog, hg3⟩
          rw [HE.out] at hlog
          obtain ⟨al, cl, rfl, _⟩ := hlog
          have HBel := hide (bel_chain HB.out HG1.out HG2.out (by omega) hg3)
          clear hg3 HE
          simp only [List.length_nil]
          go_wp2_with fail
          go_ret
          exact ⟨rfl, HBel.out⟩
end Go.Proofs.Ybulkbvqe
