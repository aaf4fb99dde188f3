/-
  WALKS for seat b3604aD: binary.BigEndian's readers; the reader's bytes, uint16, skipName.
-/
import Derived.Test.YbulkbvpqDoorApp
import Derived.Lib.EndianBits
namespace Go.Proofs.YbulkbvpqDoor
open Go.ChangeShapes Go.WideShapes Go.ChangeAt Go.RowKit
set_option linter.unusedVariables false

theorem old_cell {w : World} {a : Addr} {v : Value} (o : Obj) (h : w.cell? a = some v) : (w.alloc o).cell? a = some v :=
  (World.grownBy_alloc w o none).cell h (by simp)

theorem gb_drewN {w w' : World} {r : Option Nat} (h : w.grownBy w' r) (q : Nat) : w.grownBy (w'.drewN q) r := ⟨h.os, h.tape, h.output, h.size, h.block⟩

set_option maxHeartbeats 400000 in
theorem u16_any (g o n c : Nat) (x y : Int) (w : World) (hn : 2 ≤ n) (hx : 0 ≤ x ∧ x ≤ 255) (hy : 0 ≤ y ∧ y ≤ 255)
    (c0 : w.cell? ⟨g, o, none⟩ = some (.int .u8 x)) (c1 : w.cell? ⟨g, o + 1, none⟩ = some (.int .u8 y)) :
    Calls Ybad.prog 11 #[.agg #[], .slice (some ⟨g, o, none⟩) n c] w fun e w' => e = .returned (.int .u16 (x * 256 + y)) ∧ w.grownBy w' none := by
  obtain ⟨hx0, hx1⟩ := hx
  obtain ⟨hy0, hy1⟩ := hy
  have hl0 : (0 : Int) < (n : Int) := by omega
  have hl1 : (1 : Int) < (n : Int) := by omega
  have d0 := old_cell (.cells #[] 38) c0
  have d1 := old_cell (.cells #[] 38) c1
  go_enter Ybad.func11, Ybad.ntmps11
  go_wp2
  go_quiet (fail)
  go_wp2
  go_ret
  refine ⟨?_, gb_drewN (World.grownBy_alloc w _ none) _⟩
  have e : bits BinOp.or IntKind.u16 y (x * 256) = x * 256 + y := by
    simp (disch := omega) only [u16_or8]
    omega
  show Ending.returned (Value.int IntKind.u16 (bits BinOp.or IntKind.u16 y (x * 256))) = _
  rw [e]

set_option maxHeartbeats 400000 in
theorem u32_zero (g o n c : Nat) (w : World) (hn : 4 ≤ n)
    (c0 : w.cell? ⟨g, o, none⟩ = some (.int .u8 0)) (c1 : w.cell? ⟨g, o + 1, none⟩ = some (.int .u8 0)) (c2 : w.cell? ⟨g, o + 2, none⟩ = some (.int .u8 0)) (c3 : w.cell? ⟨g, o + 3, none⟩ = some (.int .u8 0)) :
    Calls Ybad.prog 12 #[.agg #[], .slice (some ⟨g, o, none⟩) n c] w fun e w' => e = .returned (.int .u32 0) ∧ w.grownBy w' none := by
  have hl0 : (0 : Int) < (n : Int) := by omega
  have hl1 : (1 : Int) < (n : Int) := by omega
  have hl2 : (2 : Int) < (n : Int) := by omega
  have hl3 : (3 : Int) < (n : Int) := by omega
  have d0 := old_cell (.cells #[] 38) c0
  have d1 := old_cell (.cells #[] 38) c1
  have d2 := old_cell (.cells #[] 38) c2
  have d3 := old_cell (.cells #[] 38) c3
  go_enter Ybad.func12, Ybad.ntmps12
  go_wp2
  go_quiet (fail)
  go_wp2
  go_ret
  refine ⟨?_, gb_drewN (World.grownBy_alloc w _ none) _⟩
  rfl

/-- tsig's zero value, cell by cell. -/
def zeroT : List Value := [.int .u64 0, .int .u16 0, .slice none 0 0, .int .u16 0, .int .u16 0, .slice none 0 0]

/-- WHAT parseTSIG's OWN THREE BLOCKS HOLD: the result's, the reader's (off bytes are read), t's; below B nothing has turned. -/
structure PS (w0 : World) (B g N cap off : Nat) (ts : List Value) (wr : World) : Prop where
  below : Below B w0 wr
  res : wr.heap[B]? = some (.cells zeroT.toArray 29 (0, 0))
  rd : wr.heap[B + 1]? = some (.cells #[.slice (some ⟨g, 0, none⟩) N cap, .int .i64 off] 42 (0, 0))
  t : wr.heap[B + 2]? = some (.cells ts.toArray 29 (0, 0))

theorem PS.grown {w0 w w' : World} {B g N cap off : Nat} {ts : List Value} (h : PS w0 B g N cap off ts w) (hg : w.grownBy w' none) : PS w0 B g N cap off ts w' := by
  have k : ∀ b o, w.heap[b]? = some o → w'.heap[b]? = some o := fun b o hb => (hg.block b (lt_of_block hb) (by simp)).trans hb
  have hB := lt_of_block h.res
  exact ⟨h.below.grown hg (by omega) (fun k hk => by cases hk), k _ _ h.res, k _ _ h.rd, k _ _ h.t⟩

theorem PS.drewN {w0 w : World} {B g N cap off : Nat} {ts : List Value} (h : PS w0 B g N cap off ts w) (q : Nat) : PS w0 B g N cap off ts (w.drewN q) :=
  h.grown (gb_drewN (World.grownBy.refl w none) q)

theorem heap_setCell_at {w : World} {b k : Nat} {cs : Array Value} {t : TypeId} {v : Value} (h : w.heap[b]? = some (.cells cs t (0, 0))) : (w.setCell ⟨b, k, none⟩ v).heap[b]? = some (.cells (cs.setIfInBounds k v) t (0, 0)) := by
  simp only [World.setCell, Array.getElem?_modify]
  simp [h]

theorem PS.setOff {w0 w : World} {B g N cap off : Nat} {ts : List Value} (h : PS w0 B g N cap off ts w) (off' : Nat) : PS w0 B g N cap off' ts (w.setCell ⟨B + 1, 1, none⟩ (.int .i64 off')) := by
  refine ⟨h.below.setCell (by simp) _, ?_, ?_, ?_⟩
  · rw [Below.heap_setCell _ _ _ _ (by simp)]; exact h.res
  · have := heap_setCell_at (k := 1) (v := .int .i64 off') h.rd
    simpa using this
  · rw [Below.heap_setCell _ _ _ _ (by simp)]; exact h.t

theorem PS.setT {w0 w : World} {B g N cap off : Nat} {ts : List Value} (h : PS w0 B g N cap off ts w) (k : Nat) (v : Value) : PS w0 B g N cap off (ts.set k v) (w.setCell ⟨B + 2, k, none⟩ v) := by
  refine ⟨h.below.setCell (by simp) _, ?_, ?_, ?_⟩
  · rw [Below.heap_setCell _ _ _ _ (by simp)]; exact h.res
  · rw [Below.heap_setCell _ _ _ _ (by simp)]; exact h.rd
  · have := heap_setCell_at (k := k) (v := v) h.t
    simpa using this

/-- The reader's two cells; the second may be written. -/
theorem PS.reader {w0 w : World} {B g N cap off : Nat} {ts : List Value} (h : PS w0 B g N cap off ts w) :
    w.cell? ⟨B + 1, 0, none⟩ = some (.slice (some ⟨g, 0, none⟩) N cap) ∧ w.cell? ⟨B + 1, 1, none⟩ = some (.int .i64 off) ∧ w.frozen? ⟨B + 1, 1, none⟩ = false := by
  refine ⟨?_, ?_, ?_⟩
  · simp only [World.cell?, h.rd]; rfl
  · simp only [World.cell?, h.rd]; rfl
  · simp only [World.frozen?, h.rd]; rfl

theorem sl_ret {a : Option Addr} {n n' c : Nat} (h : n = n') : Ending.returned (.tuple #[.slice a n c, .nilIface]) = .returned (.tuple #[.slice a n' c, .nilIface]) := by rw [h]

set_option maxHeartbeats 400000 in
theorem bytes_any {w0 w : World} {B g N cap off : Nat} {ts : List Value} (n : Nat) (h : PS w0 B g N cap off ts w) (hn : off + n ≤ N) (hN : N ≤ cap) (hc : cap ≤ maxLen) :
    Calls Ybad.prog 10 #[.pointer (some ⟨B + 1, 0, none⟩), .int .i64 n] w fun e w' => ∃ ao c, e = .returned (.tuple #[.slice ao n c, .nilIface]) ∧ n ≤ c ∧ (0 < n → ao = some ⟨g, off, none⟩) ∧ PS w0 B g N cap (off + n) ts w' := by
  obtain ⟨c0, c1, f1⟩ := h.reader
  have HP := hide h
  clear h
  unfold maxLen at hc
  have k1 : ¬ (N : Int) - (off : Int) < (n : Int) := by omega
  by_cases hco : cap = off
  · have hn0 : n = 0 := by omega
    go_enter Ybad.func10, Ybad.ntmps10
    go_wp2
    go_quiet (fail)
    go_wp2
    go_quiet (fail)
    go_wp2
    go_ret2
    subst hn0
    exact ⟨some ⟨g, 0, none⟩, 0, rfl, Nat.le_refl _, fun h => absurd h (by omega), by simpa using (HP.out.drewN (_ + _)).setOff (off + 0)⟩
  · have hsub : off + n - off = n := by omega
    have HS := hide hsub
    clear hsub
    go_enter Ybad.func10, Ybad.ntmps10
    go_wp2
    go_quiet (fail)
    go_wp2
    go_quiet (fail)
    go_wp2
    go_ret2
    exact ⟨some ⟨g, off, none⟩, cap - off, sl_ret HS.out, by omega, fun _ => rfl, by simpa using (HP.out.drewN (_ + _)).setOff (off + n)⟩

set_option maxHeartbeats 400000 in
theorem uint16_any {w0 w : World} {B g N cap off : Nat} {ts : List Value} (x y : Int) (h : PS w0 B g N cap off ts w) (hn : off + 2 ≤ N) (hN : N ≤ cap) (hc : cap ≤ maxLen) (hg : g < B) (hx : 0 ≤ x ∧ x ≤ 255) (hy : 0 ≤ y ∧ y ≤ 255)
    (c0 : w0.cell? ⟨g, off, none⟩ = some (.int .u8 x)) (c1 : w0.cell? ⟨g, off + 1, none⟩ = some (.int .u8 y)) :
    Calls Ybad.prog 13 #[.pointer (some ⟨B + 1, 0, none⟩)] w fun e w' => e = .returned (.tuple #[.int .u16 (x * 256 + y), .nilIface]) ∧ PS w0 B g N cap (off + 2) ts w' := by
  have HP := hide h
  clear h
  go_enter Ybad.func13, Ybad.ntmps13
  go_wp2_with fail
  refine (bytes_any 2 HP.out hn hN hc).mono ?_
  rintro e w1 ⟨ao, c, rfl, hc2, hao, hps⟩
  have HP1 := hide hps
  rw [hao (by omega)]
  clear hao hps HP
  go_wp2_with fail
  refine (u16_any g off 2 c x y _ (Nat.le_refl _) hx hy ((HP1.out.below.cell (p := ⟨g, off, none⟩) hg).trans c0) ((HP1.out.below.cell (p := ⟨g, off + 1, none⟩) hg).trans c1)).mono ?_
  rintro e w2 ⟨rfl, hg2⟩
  have HP2 := hide (HP1.out.grown hg2)
  clear HP1 hg2
  go_wp2
  go_ret2
  exact ⟨rfl, HP2.out⟩

set_option maxHeartbeats 400000 in
theorem skip_any {w0 w : World} {B g N cap : Nat} {ts : List Value} (h : PS w0 B g N cap 0 ts w) (hn : 1 ≤ N) (hN : N ≤ cap) (hc : cap ≤ maxLen) (hg : g < B) (c0 : w0.cell? ⟨g, 0, none⟩ = some (.int .u8 0)) :
    Calls Ybad.prog 9 #[.pointer (some ⟨B + 1, 0, none⟩)] w fun e w' => e = .returned .nilIface ∧ PS w0 B g N cap 1 ts w' := by
  have HP := hide h
  clear h
  go_enter Ybad.func9, Ybad.ntmps9
  go_wp2
  refine wp_loop_rounds 1 ?_
  rw [rounds_succ]
  go_wp2_with fail
  refine (bytes_any 1 HP.out (by omega) hN hc).mono ?_
  rintro e w1 ⟨ao, c, rfl, hc2, hao, hps⟩
  have HP1 := hide hps
  rw [hao (by omega)]
  have k0 : w1.cell? ⟨g, 0, none⟩ = some (.int .u8 0) := (HP1.out.below.cell (p := ⟨g, 0, none⟩) hg).trans c0
  clear hao hps HP
  go_wp2_with fail
  go_ret
  exact ⟨rfl, HP1.out⟩
end Go.Proofs.YbulkbvpqDoor
