/-
  WALK for seat b3604a: LawS3604BExact.
-/
import Derived.Test.YbulkbvpqApp
namespace Go.Proofs.Ybulkbvpq
open Go.ChangeShapes Go.WideShapes Go.ChangeAt Go.RowKit
set_option linter.unusedVariables false

theorem below_drewN {B : Nat} {a w : World} (h : Below B a w) (n : Nat) : Below B a (w.drewN n) := h.trans ⟨rfl, rfl, rfl, Nat.le_refl _, fun _ _ => rfl⟩

theorem row_of_block {w : World} {b : Nat} {zs : List Int} (h : w.heap[b]? = some (byteBlock zs)) : Row w (some ⟨b, 0, none⟩) zs := by
  refine .inr ⟨b, 0, rfl, fun i hi => ?_⟩
  have := byteBlock_cells h i (.int .u8 (zs.getD i 0)) (by simp [List.getD, hi])
  rwa [Addr.add_lit] at this

theorem owned_cells {w : World} {B : Nat} {v : Value} {N : Nat} {L : List Int} (h : w.ownsRow B 5 1 v N (L.map (Value.int .u8))) (hpos : 0 < N) :
    ∃ g cap, v = .slice (some ⟨g, 0, none⟩) N cap ∧ L.length = N ∧ ∀ i, i < N → w.cell? ⟨g, i, none⟩ = some (.int .u8 (L.getD i 0)) := by
  obtain ⟨h1, h2⟩ := h
  have hl : L.length = N := by simpa using h1
  rcases h2 with ⟨_, h2⟩ | ⟨g, cap, cur, hv, _, hh, _, _, _, ht⟩
  · omega
  · refine ⟨g, cap, hv, hl, fun i hi => ?_⟩
    simp only [World.cell?, hh]
    have e : (cur.toList.take (N * 1))[i]? = some (.int .u8 (L.getD i 0)) := by
      rw [ht]
      simp [List.getD, show i < L.length by omega]
    rw [List.getElem?_take] at e
    simp at e
    simpa using e.2

/-- The bytes that the law looks for. -/
def want (zs os : List Int) (code : Int) (m : Nat) : List Int := zs ++ [code / 256, code % 256, (m : Int) / 256, (m : Int) % 256] ++ os
theorem want_lo (zs os : List Int) (code : Int) (m n i : Nat) (h : zs.length = n) (hi : i < n) : (want zs os code m).getD i 0 = zs.getD i 0 := by
  simp [want, List.getD, List.getElem?_append, h, hi]
theorem want_hi (zs os : List Int) (code : Int) (m n i : Nat) (h : zs.length = n) : (want zs os code m).getD (n + 4 + i) 0 = os.getD i 0 := by
  have e : n + 4 + i - n = i + 4 := by omega
  have e2 : ¬ n + 4 + i < n := by omega
  simp [want, List.getD, List.getElem?_append, h, e, e2]
theorem want_mid (zs os : List Int) (code : Int) (m n : Nat) (h : zs.length = n) : (want zs os code m).getD n 0 = code / 256 ∧ (want zs os code m).getD (n + 1) 0 = code % 256 ∧ (want zs os code m).getD (n + 2) 0 = (m : Int) / 256 ∧ (want zs os code m).getD (n + 3) 0 = (m : Int) % 256 := by
  subst h
  simp [want, List.getD]

set_option maxHeartbeats 400000 in
theorem law_big0 (a0 : Option Addr) (n c0 : Nat) (code : Int) (a2 : Option Addr) (m c2 : Nat) (w : World) (hn : 4096 < n) (hn' : n ≤ maxLen) (hm' : m ≤ maxLen) :
    Calls Yba.prog 3 #[.slice a0 n c0, .int .u16 code, .slice a2 m c2] w fun e w' => e = .returned (.bool true) ∧ Below w.heap.size w w' := by
  unfold maxLen at hn' hm'
  go_enter Yba.func3, Yba.ntmps3
  go_wp2
  go_ret
  exact ⟨rfl, Below.refl _ _⟩

set_option maxHeartbeats 400000 in
theorem law_big2 (a0 : Option Addr) (n c0 : Nat) (code : Int) (a2 : Option Addr) (m c2 : Nat) (w : World) (hn : n ≤ 4096) (hm : 4096 < m) (hm' : m ≤ maxLen) :
    Calls Yba.prog 3 #[.slice a0 n c0, .int .u16 code, .slice a2 m c2] w fun e w' => e = .returned (.bool true) ∧ Below w.heap.size w w' := by
  unfold maxLen at hm'
  go_enter Yba.func3, Yba.ntmps3
  go_wp2
  go_ret
  exact ⟨rfl, Below.refl _ _⟩

set_option maxHeartbeats 400000 in
theorem law_main (a0 : Option Addr) (n c0 : Nat) (zs : List Int) (code : Int) (a2 : Option Addr) (m c2 : Nat) (os : List Int) (w : World) (hn : n ≤ 4096) (hm : m ≤ 4096)
    (hz : zs.length = n) (ho : os.length = m) (h0 : 0 ≤ code) (h1 : code ≤ 65535) (r0 : Row w a0 zs) (r2 : Row w a2 os) :
    Calls Yba.prog 3 #[.slice a0 n c0, .int .u16 code, .slice a2 m c2] w fun e w' => e = .returned (.bool true) ∧ Below w.heap.size w w' := by
  have H : Hid (zs.length = n ∧ os.length = m) := ⟨hz, ho⟩
  clear hz ho
  go_enter Yba.func3, Yba.ntmps3
  go_wp2_with fail
  refine (clone_any a0 n c0 zs _ H.out.1 hn r0).mono ?_
  rintro e w1 ⟨rfl, hk1, hb1⟩
  have HK1 := hide hk1
  clear hk1
  go_wp2_with fail
  refine (clone_any a2 m c2 os _ H.out.2 hm (r2.below hb1 (Nat.le_refl _))).mono ?_
  rintro e w2 ⟨rfl, hk2, hb2⟩
  have HK2 := hide hk2
  clear hk2
  go_wp2_with fail
  have hs1 := lt_of_block HK1.out
  have hs2 := lt_of_block HK2.out
  have hsz1 := hb1.size
  have hsz2 := hb2.size
  refine (appErr_grow (some ⟨w.heap.size, 0, none⟩) n n zs code w1.heap.size m m os _ h0 h1 H.out.1 (by omega) H.out.2 hm (by omega) (by intro h; cases h) ?_ ?_).mono ?_
  · have hk : Below (w.heap.size + 1) w1 (w2.alloc (Obj.cells #[Value.int IntKind.u64 0, Value.int IntKind.u16 0, Value.slice none 0 0, Value.int IntKind.u16 0, Value.int IntKind.u16 code, Value.slice (some { block := w1.heap.size, off := 0 }) m m] 28)) := (hb2.mono (by omega)).alloc (by omega) _
    exact row_of_block ((hk.block _ (by omega)).trans HK1.out)
  · exact (Below.heap_alloc w2 _ _ hs2).trans HK2.out
  rintro e w4 ⟨v4, rfl, hown4, hg4⟩
  have hB4 : Below w2.heap.size w2 w4 := ((Below.refl w2.heap.size w2).alloc (Nat.le_refl _) _).grown hg4 (by simp) (by intro k hk; cases hk)
  obtain ⟨g, cap, hv, hL, hcell⟩ := owned_cells (L := want zs os code m) hown4 (by omega)
  have HC := hide hcell
  have HV := hide hv
  have hBb : Below w.heap.size w w4 := (hb1.trans (hb2.mono hsz1)).trans (hB4.mono (by omega))
  have R0 := r0.below hBb (Nat.le_refl _)
  have R2 := r2.below hBb (Nat.le_refl _)
  have RB : Row w4 (some ⟨w.heap.size, 0, none⟩) zs := ((row_of_block HK1.out).below hb2 (Nat.le_refl _)).below hB4 (Nat.le_refl _)
  have RO : Row w4 (some ⟨w1.heap.size, 0, none⟩) os := (row_of_block HK2.out).below hB4 (Nat.le_refl _)
  obtain ⟨q0, q1, q2, q3⟩ := want_mid zs os code m n H.out.1
  have k0 : w4.cell? ⟨g, n, none⟩ = some (.int .u8 (code / 256)) := by rw [HC.out n (by omega), q0]
  have k1 : w4.cell? ⟨g, n + 1, none⟩ = some (.int .u8 (code % 256)) := by rw [HC.out (n + 1) (by omega), q1]
  have k2 : w4.cell? ⟨g, n + 2, none⟩ = some (.int .u8 ((m : Int) / 256)) := by rw [HC.out (n + 2) (by omega), q2]
  have k3 : w4.cell? ⟨g, n + 3, none⟩ = some (.int .u8 ((m : Int) % 256)) := by rw [HC.out (n + 3) (by omega), q3]
  have HR := hide (And.intro R0 (And.intro R2 (And.intro RB RO)))
  have HBB := hide hBb
  clear hcell hv hown4 hg4 hB4 hBb R0 R2 RB RO q0 q1 q2 q3 hL HK1 HK2 hs1 hs2 hsz1 hsz2 hb1 hb2 r0 r2
  rw [HV.out]
  go_wp2
  go_loopw [13] (fun i wr => ∃ k : Nat, k ≤ n ∧ i = .int .i64 k ∧ ∃ q, wr = w4.drewN q) (fun i _ => n - (intOf i).toNat)
  case atStart => exact ⟨0, Nat.zero_le _, rfl, 0, rfl⟩
  case round =>
    obtain ⟨k, hk, rfl, q, rfl⟩ := hrel
    by_cases hlt : k < n
    · rcases HR.out.1 with h | ⟨b, o, ha, hc⟩
      · have := H.out.1; rw [h] at this; simp at this; omega
      · have g1 := hc k (by rw [H.out.1]; exact hlt)
        have g2 := HC.out k (by omega)
        rw [want_lo zs os code m n k H.out.1 hlt] at g2
        clear hc
        rw [ha]
        have hi : (k : Int) < (n : Int) := by omega
        have hi2 : (k : Int) < ((n + 4 + m : Nat) : Int) := by omega
        go_wp2
        go_quiet (fail)
        go_wp2
        go_roundw
        case rel => exact ⟨k + 1, by omega, by go_num, _, rfl⟩
        case measure => simp [intOf]; omega
    · go_wp2
      go_loopw [14] (fun i wr => ∃ k : Nat, k ≤ m ∧ i = .int .i64 k ∧ ∃ q, wr = w4.drewN q) (fun i _ => m - (intOf i).toNat)
      case atStart => exact ⟨0, Nat.zero_le _, rfl, q, rfl⟩
      case round =>
        obtain ⟨j, hj, rfl, q', rfl⟩ := hrel
        by_cases hlt2 : j < m
        · rcases HR.out.2.1 with h | ⟨b, o, ha, hc⟩
          · have := H.out.2; rw [h] at this; simp at this; omega
          · have g1 := hc j (by rw [H.out.2]; exact hlt2)
            have g2 := HC.out (n + 4 + j) (by omega)
            rw [want_hi zs os code m n j H.out.1] at g2
            clear hc
            rw [ha]
            have hi : (j : Int) < (m : Int) := by omega
            have hi2 : (n : Int) + 4 + (j : Int) < ((n + 4 + m : Nat) : Int) := by omega
            go_wp2
            go_quiet (fail)
            go_wp2
            go_roundw
            case rel => exact ⟨j + 1, by omega, by go_num, _, rfl⟩
            case measure => simp [intOf]; omega
        · go_wp2_with fail
          refine (eq_any _ _ n _ _ zs _ H.out.1 (by omega) (HR.out.2.2.1.drewN _) (HR.out.1.drewN _)).mono ?_
          rintro e w5 ⟨rfl, k5, hw5⟩
          subst hw5
          go_wp2_with fail
          refine (eq_any _ _ m _ _ os _ H.out.2 (by omega) (HR.out.2.2.2.drewN _) (HR.out.2.1.drewN _)).mono ?_
          rintro e w6 ⟨rfl, k6, hw6⟩
          subst hw6
          go_wp2
          go_ret
          refine ⟨rfl, ?_⟩
          exact below_drewN HBB.out _
end Go.Proofs.Ybulkbvpq
