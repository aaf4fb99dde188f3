/-
  WALKS for seat b3604aD: parseTSIG.
-/
import Derived.Test.YbulkbvpqDoorRead
import Derived.Deep.RegionHeld3
import Derived.Deep.DrawnRows
import Derived.Deep.RegionWith
namespace Go.Proofs.YbulkbvpqDoor
open Go.ChangeShapes Go.WideShapes Go.ChangeAt Go.RowKit
set_option linter.unusedVariables false


theorem PS.start (w : World) (g N cap : Nat) : PS w w.heap.size g N cap 0 zeroT (((w.alloc (.cells zeroT.toArray 29)).alloc (.cells #[.slice (some ⟨g, 0, none⟩) N cap, .int .i64 0] 42)).alloc (.cells zeroT.toArray 29)) := by
  have e1 : (w.alloc (.cells zeroT.toArray 29)).heap.size = w.heap.size + 1 := by simp
  refine ⟨((((Below.refl w.heap.size w).alloc (Nat.le_refl _) _).alloc (by simp) _).alloc (by simp; omega) _), ?_, ?_, ?_⟩
  · rw [Below.heap_alloc _ _ _ (by simp; omega), Below.heap_alloc _ _ _ (by simp)]
    exact heap_alloc_new w _
  · rw [Below.heap_alloc _ _ _ (by simp)]
    have := heap_alloc_new (w.alloc (.cells zeroT.toArray 29)) (.cells #[.slice (some ⟨g, 0, none⟩) N cap, .int .i64 0] 42)
    simpa using this
  · have := heap_alloc_new ((w.alloc (.cells zeroT.toArray 29)).alloc (.cells #[.slice (some ⟨g, 0, none⟩) N cap, .int .i64 0] 42)) (.cells zeroT.toArray 29)
    simpa using this

/-- t's cell k; it may be written. -/
theorem PS.tcell {w0 w : World} {B g N cap off : Nat} {ts : List Value} (h : PS w0 B g N cap off ts w) (k : Nat) (v : Value) (hv : ts[k]? = some v) :
    w.cell? ⟨B + 1 + 1, k, none⟩ = some v ∧ w.frozen? ⟨B + 1 + 1, k, none⟩ = false := by
  show w.cell? ⟨B + 2, k, none⟩ = some v ∧ w.frozen? ⟨B + 2, k, none⟩ = false
  refine ⟨?_, ?_⟩
  · simp only [World.cell?, h.t]; simpa using hv
  · simp only [World.frozen?, h.t]; simp

/-- The result's cells; they may be written. -/
theorem PS.rcells {w0 w : World} {B g N cap off : Nat} {ts : List Value} (h : PS w0 B g N cap off ts w) :
    (w.cell? ⟨B, 0, none⟩ = some (.int .u64 0) ∧ w.frozen? ⟨B, 0, none⟩ = false) ∧ (w.cell? ⟨B, 1, none⟩ = some (.int .u16 0) ∧ w.frozen? ⟨B, 1, none⟩ = false) ∧ (w.cell? ⟨B, 2, none⟩ = some (.slice none 0 0) ∧ w.frozen? ⟨B, 2, none⟩ = false) ∧
      (w.cell? ⟨B, 3, none⟩ = some (.int .u16 0) ∧ w.frozen? ⟨B, 3, none⟩ = false) ∧ (w.cell? ⟨B, 4, none⟩ = some (.int .u16 0) ∧ w.frozen? ⟨B, 4, none⟩ = false) ∧ (w.cell? ⟨B, 5, none⟩ = some (.slice none 0 0) ∧ w.frozen? ⟨B, 5, none⟩ = false) := by
  refine ⟨⟨?_, ?_⟩, ⟨?_, ?_⟩, ⟨?_, ?_⟩, ⟨?_, ?_⟩, ⟨?_, ?_⟩, ⟨?_, ?_⟩⟩
  all_goals first | (simp only [World.cell?, h.res]; rfl) | (simp only [World.frozen?, h.res]; rfl)

theorem PS.drew {w0 w : World} {B g N cap off : Nat} {ts : List Value} (h : PS w0 B g N cap off ts w) : PS w0 B g N cap off ts w.drew :=
  h.grown ⟨rfl, rfl, rfl, Nat.le_refl _, fun _ _ _ => rfl⟩

theorem TS_of {w0 w : World} {B g N cap off : Nat} {ts : List Value} (k : Nat) (v : Value) (hv : ts[k]? = some v) (h : PS w0 B g N cap off ts w) :
    PS w0 B g N cap off ts w ∧ w.cell? ⟨B + 1 + 1, k, none⟩ = some v ∧ w.frozen? ⟨B + 1 + 1, k, none⟩ = false := ⟨h, h.tcell k v hv⟩

theorem u16_ps {w0 w : World} {B g N cap off : Nat} {ts : List Value} (h : PS w0 B g N cap off ts w) (hg : g < B) (o n c : Nat) (x y : Int) (hn : 2 ≤ n) (hx : 0 ≤ x ∧ x ≤ 255) (hy : 0 ≤ y ∧ y ≤ 255)
    (c0 : w0.cell? ⟨g, o, none⟩ = some (.int .u8 x)) (c1 : w0.cell? ⟨g, o + 1, none⟩ = some (.int .u8 y)) :
    Calls Ybad.prog 11 #[.agg #[], .slice (some ⟨g, o, none⟩) n c] w fun e w' => e = .returned (.int .u16 (x * 256 + y)) ∧ PS w0 B g N cap off ts w' := by
  refine (u16_any g o n c x y w hn hx hy ((h.below.cell (p := ⟨g, o, none⟩) hg).trans c0) ((h.below.cell (p := ⟨g, o + 1, none⟩) hg).trans c1)).mono ?_
  rintro e w' ⟨rfl, hg'⟩
  exact ⟨rfl, h.grown hg'⟩

theorem u32_ps {w0 w : World} {B g N cap off : Nat} {ts : List Value} (h : PS w0 B g N cap off ts w) (hg : g < B) (o n c : Nat) (hn : 4 ≤ n)
    (c0 : w0.cell? ⟨g, o, none⟩ = some (.int .u8 0)) (c1 : w0.cell? ⟨g, o + 1, none⟩ = some (.int .u8 0)) (c2 : w0.cell? ⟨g, o + 2, none⟩ = some (.int .u8 0)) (c3 : w0.cell? ⟨g, o + 3, none⟩ = some (.int .u8 0)) :
    Calls Ybad.prog 12 #[.agg #[], .slice (some ⟨g, o, none⟩) n c] w fun e w' => e = .returned (.int .u32 0) ∧ PS w0 B g N cap off ts w' := by
  refine (u32_zero g o n c w hn ((h.below.cell (p := ⟨g, o, none⟩) hg).trans c0) ((h.below.cell (p := ⟨g, o + 1, none⟩) hg).trans c1) ((h.below.cell (p := ⟨g, o + 2, none⟩) hg).trans c2) ((h.below.cell (p := ⟨g, o + 3, none⟩) hg).trans c3)).mono ?_
  rintro e w' ⟨rfl, hg'⟩
  exact ⟨rfl, h.grown hg'⟩

set_option maxHeartbeats 1000000 in
theorem parse_any (g cap mm m : Nat) (oid code : Int) (w : World) (hg : g < w.heap.size) (hN : 17 + mm + m ≤ cap) (hc : cap ≤ maxLen) (hmm : mm ≤ 4096) (hm : m ≤ 4096) (ho : 0 ≤ oid ∧ oid ≤ 65535) (hco : 0 ≤ code ∧ code ≤ 65535)
    (z : ∀ i, i < 9 → w.cell? ⟨g, i, none⟩ = some (.int .u8 0))
    (c9 : w.cell? ⟨g, 9, none⟩ = some (.int .u8 ((mm : Int) / 256))) (c10 : w.cell? ⟨g, 9 + 1, none⟩ = some (.int .u8 ((mm : Int) % 256)))
    (d0 : w.cell? ⟨g, 11 + mm, none⟩ = some (.int .u8 (oid / 256))) (d1 : w.cell? ⟨g, 11 + mm + 1, none⟩ = some (.int .u8 (oid % 256)))
    (d2 : w.cell? ⟨g, 11 + mm + 2, none⟩ = some (.int .u8 (code / 256))) (d3 : w.cell? ⟨g, 11 + mm + 2 + 1, none⟩ = some (.int .u8 (code % 256)))
    (d4 : w.cell? ⟨g, 15 + mm, none⟩ = some (.int .u8 ((m : Int) / 256))) (d5 : w.cell? ⟨g, 15 + mm + 1, none⟩ = some (.int .u8 ((m : Int) % 256))) :
    Calls Ybad.prog 6 #[.slice (some ⟨g, 0, none⟩) (17 + mm + m) cap] w fun e w' => ∃ a1 c1 a2 c2, e = .returned (.tuple #[.agg #[.int .u64 0, .int .u16 0, .slice a1 mm c1, .int .u16 oid, .int .u16 code, .slice a2 m c2], .nilIface]) ∧
      (0 < mm → a1 = some ⟨g, 11, none⟩) ∧ (0 < m → a2 = some ⟨g, 17 + mm, none⟩) ∧ Below w.heap.size w w' := by
  have HD := hide (And.intro z (And.intro c9 (And.intro c10 (And.intro d0 (And.intro d1 (And.intro d2 (And.intro d3 (And.intro d4 d5))))))))
  clear z c9 c10 d0 d1 d2 d3 d4 d5
  go_enter Ybad.func6, Ybad.ntmps6
  go_wp2_with fail
  refine (skip_any (N := 17 + mm + m) (cap := cap) (PS.start w g (17 + mm + m) cap) (by omega) hN hc hg (HD.out.1 0 (by omega))).mono ?_
  rintro e w1 ⟨rfl, hps⟩
  have HP1 := hide hps
  clear hps
  go_wp2_with fail
  refine (bytes_any (B := w.heap.size) 8 HP1.out (by omega) hN hc).mono ?_
  rintro e w2 ⟨ao, c, rfl, hc2, hao, hps⟩
  have HP2 := hide hps
  rw [hao (by omega)]
  clear hao hps HP1
  have b1 : (2 : Int) ≤ (c : Int) := by omega
  have b2 : (6 : Int) ≤ (c : Int) := by omega
  have b3 : (8 : Int) ≤ (c : Int) := by omega
  have b4 : ¬ c = 2 := by omega
  have b5 : ¬ c = 6 := by omega
  go_wp2_with fail
  have hP2 := HP2.out
  go_region_held3 (fun w' => PS w w.heap.size g (17 + mm + m) cap (1 + 8) zeroT w' ∧ w'.cell? ⟨w.heap.size + 1 + 1, 0, none⟩ = some (.int .u64 0) ∧ w'.frozen? ⟨w.heap.size + 1 + 1, 0, none⟩ = false)
    (first | exact TS_of 0 _ rfl (PS.drew (by assumption)) | exact TS_of 0 _ rfl (by assumption) | exact TS_of 0 _ rfl (PS.setT (And.left (by assumption)) 0 _))
    (first | (go_at_call 11; refine (u16_ps (And.left (by assumption)) hg 1 8 c 0 0 (by omega) (by omega) (by omega) (HD.out.1 1 (by omega)) (HD.out.1 2 (by omega))).mono ?_; rintro e w' ⟨rfl, hps'⟩) | (go_at_call 12; refine (u32_ps (And.left (by assumption)) hg 3 6 _ (by omega) (HD.out.1 3 (by omega)) (HD.out.1 4 (by omega)) (HD.out.1 5 (by omega)) (HD.out.1 6 (by omega))).mono ?_; rintro e w' ⟨rfl, hps'⟩))
  have hP3 := And.left ‹PS w w.heap.size g (17 + mm + m) cap (1 + 8) zeroT (w'.setCell _ _) ∧ _›
  generalize w'.setCell _ _ = w3 at hP3 ⊢
  have HP3 := hide hP3
  clear hP2 HP2
  go_wp2_with fail
  go_region_held3 (fun w' => PS w w.heap.size g (17 + mm + m) cap (1 + 8) zeroT w' ∧ w'.cell? ⟨w.heap.size + 1 + 1, 1, none⟩ = some (.int .u16 0) ∧ w'.frozen? ⟨w.heap.size + 1 + 1, 1, none⟩ = false)
    (first | exact TS_of 1 _ rfl (PS.drew (by assumption)) | exact TS_of 1 _ rfl (by assumption) | exact TS_of 1 _ rfl (PS.setT (And.left (by assumption)) 1 _))
    (first | (go_at_call 11; refine (u16_ps (And.left (by assumption)) hg 7 2 _ 0 0 (by omega) (by omega) (by omega) (HD.out.1 7 (by omega)) (HD.out.1 8 (by omega))).mono ?_; rintro e w' ⟨rfl, hps'⟩))
  have hP4 := And.left ‹PS w w.heap.size g (17 + mm + m) cap (1 + 8) zeroT (w'.setCell _ _) ∧ _›
  generalize w'.setCell _ _ = w4 at hP4 ⊢
  have HP4 := hide hP4
  clear hP3 HP3 hP4
  go_wp2_with fail
  refine (uint16_any (B := w.heap.size) ((mm : Int) / 256) ((mm : Int) % 256) HP4.out (by omega) hN hc hg (by omega) (by omega) HD.out.2.1 HD.out.2.2.1).mono ?_
  rintro e w5 ⟨rfl, hps⟩
  have HP5 := hide hps
  clear hps HP4
  rw [show (mm : Int) / 256 * 256 + (mm : Int) % 256 = (mm : Int) by omega]
  go_wp2_with fail
  refine (bytes_any (B := w.heap.size) mm HP5.out (by omega) hN hc).mono ?_
  rintro e w6 ⟨a1, c1, rfl, hc6, ha1, hps⟩
  have HP6 := hide hps
  have HA1 := hide ha1
  obtain ⟨t2, f2⟩ := HP6.out.tcell 2 _ rfl
  clear hps HP5 ha1
  go_wp2_with fail
  have HP7 := hide (HP6.out.setT 2 (.slice a1 mm c1))
  clear HP6 t2 f2
  refine (bytes_any (B := w.heap.size) 4 HP7.out (by omega) hN hc).mono ?_
  rintro e w8 ⟨ao8, c8, rfl, hc8, ha8, hps⟩
  rw [ha8 (by omega), show 1 + 8 + 2 + mm = 11 + mm by omega]
  have HP8 := hide hps
  obtain ⟨t3, f3⟩ := HP8.out.tcell 3 _ rfl
  clear hps HP7 ha8
  have e1 : (2 : Int) ≤ (c8 : Int) := by omega
  have e2 : (4 : Int) ≤ (c8 : Int) := by omega
  have e3 : ¬ c8 = 2 := by omega
  go_wp2_with fail
  refine (u16_ps (B := w.heap.size) HP8.out hg (11 + mm) 4 c8 (oid / 256) (oid % 256) (by omega) (by omega) (by omega) HD.out.2.2.2.1 HD.out.2.2.2.2.1).mono ?_
  rintro e w9 ⟨rfl, hps⟩
  have HP9 := hide hps
  obtain ⟨t3', f3'⟩ := HP9.out.tcell 3 _ rfl
  clear hps HP8 t3 f3
  rw [show oid / 256 * 256 + oid % 256 = oid by omega]
  go_wp2_with fail
  have hP10 := (HP9.out.setT 3 (.int .u16 oid))
  generalize hw10 : w9.setCell ⟨w.heap.size + 1 + 1, 3, none⟩ (.int .u16 oid) = w10
  have hPA : PS w w.heap.size g (17 + mm + m) cap (1 + 8 + 2 + mm + 4) ((zeroT.set 2 (.slice a1 mm c1)).set 3 (.int .u16 oid)) w10 := by rw [← hw10]; exact hP10
  clear hP10 hw10 HP9 t3' f3'
  go_region_with (go_at_call 11; refine (u16_ps (PS.drew hPA) hg (11 + mm + 2) 2 _ (code / 256) (code % 256) (by omega) (by omega) (by omega) HD.out.2.2.2.2.2.1 HD.out.2.2.2.2.2.2.1).mono ?_; rintro e w' ⟨rfl, hps'⟩; obtain ⟨t4, f4⟩ := hps'.tcell 4 _ rfl; rw [show code / 256 * 256 + code % 256 = code by omega])
  have HP11 := hide (hps'.setT 4 (.int .u16 code))
  generalize hw11 : w'.setCell ⟨w.heap.size + 1 + 1, 4, none⟩ (.int .u16 code) = w11
  have HP12 : Hid (PS w w.heap.size g (17 + mm + m) cap (15 + mm) [.int .u64 0, .int .u16 0, .slice a1 mm c1, .int .u16 oid, .int .u16 code, .slice none 0 0] w11) := by
    have := HP11.out
    rw [show w'.setCell ⟨w.heap.size + 2, 4, none⟩ (.int .u16 code) = w11 from hw11, show 1 + 8 + 2 + mm + 4 = 15 + mm by omega] at this
    exact this
  clear HP11 hw11 hPA hps' t4 f4
  go_wp2_with fail
  refine (uint16_any (B := w.heap.size) ((m : Int) / 256) ((m : Int) % 256) HP12.out (by omega) hN hc hg (by omega) (by omega) HD.out.2.2.2.2.2.2.2.1 HD.out.2.2.2.2.2.2.2.2).mono ?_
  rintro e w13 ⟨rfl, hps⟩
  have HP13 := hide hps
  clear hps HP12
  rw [show (m : Int) / 256 * 256 + (m : Int) % 256 = (m : Int) by omega]
  go_wp2_with fail
  refine (bytes_any (B := w.heap.size) m HP13.out (by omega) hN hc).mono ?_
  rintro e w14 ⟨a2, c2, rfl, hc14, ha2, hps⟩
  have HP14 := hide hps
  have HA2 := hide ha2
  obtain ⟨t5, f5⟩ := HP14.out.tcell 5 _ rfl
  obtain ⟨t0, f0⟩ := HP14.out.tcell 0 _ rfl
  obtain ⟨t1, f1⟩ := HP14.out.tcell 1 _ rfl
  obtain ⟨t2, f2⟩ := HP14.out.tcell 2 _ rfl
  obtain ⟨t3, f3⟩ := HP14.out.tcell 3 _ rfl
  obtain ⟨t4, f4⟩ := HP14.out.tcell 4 _ rfl
  obtain ⟨⟨r0, g0⟩, ⟨r1, g1⟩, ⟨r2, g2⟩, ⟨r3, g3⟩, ⟨r4, g4⟩, ⟨r5, g5⟩⟩ := HP14.out.rcells
  clear hps HP13 ha2 f0 f1 f2 f3 f4
  go_wp2_with fail
  refine bodyPost_ret (v := .tuple #[.agg #[.int .u64 0, .int .u16 0, .slice a1 mm c1, .int .u16 oid, .int .u16 code, .slice a2 m c2], .nilIface]) (by simp [results, Ybad.results6, go_sem, r0, r1, r2, r3, r4, r5]) rfl ⟨a1, c1, a2, c2, rfl, ?_, ?_, ?_⟩
  · intro h; rw [HA1.out h]
  · intro h; rw [HA2.out h, show 15 + mm + 2 = 17 + mm by omega]
  · exact ((((((HP14.out.below.setCell (by simp; omega) _).setCell (by simp) _).setCell (by simp) _).setCell (by simp) _).setCell (by simp) _).setCell (by simp) _).setCell (by simp) _
end Go.Proofs.YbulkbvpqDoor
