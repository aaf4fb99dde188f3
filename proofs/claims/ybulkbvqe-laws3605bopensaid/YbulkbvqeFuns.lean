/-
  WALKS for seat b3605a: the closures and the frame's reader.
-/
import Derived.Test.YbulkbvqeRows
import Derived.WalkKit
import Derived.ProofKit
import Derived.WalkSpells
import Derived.WalkLawsBesides
import Derived.ArgAppend
import Derived.Laws.CopyOwn
import Derived.Laws.EntriesVeiled
import Derived.Deep.QuietTactic
import Derived.Deep.RegionWith
import Derived.BigQuiet
import Derived.Below
namespace Go.Proofs.Ybulkbvqe
open Go.ChangeShapes Go.WideShapes Go.ChangeAt Go.RowKit
set_option linter.unusedVariables false

theorem hide {p : Prop} (h : p) : Hid p := h

set_option maxHeartbeats 400000 in
/-- A cell that is chosen: its value; nothing turns. -/
theorem read_closed (fb sb cap c : Nat) (x : Int) (w : World) (hc : c < 4) (hx : ¬ x = -1) (m : w.cell? ⟨fb, 1, none⟩ = some (.slice (some ⟨sb, 0, none⟩) 4 cap)) (s : w.cell? ⟨sb, c, none⟩ = some (.int .i32 x)) :
    Calls Yba.prog 23 #[.pointer (some ⟨fb, 0, none⟩), .int .i64 c] w fun e w' => e = .returned (.int .i32 x) ∧ w' = w := by
  have hb : (x == -1) = false := by simpa using hx
  have hci : (c : Int) < 4 := by omega
  go_enter Yba.func23, Yba.ntmps23
  go_wp2
  go_ret
  exact ⟨rfl, rfl⟩

set_option maxHeartbeats 400000 in
/-- An open cell: it takes the blame, which nobody had. -/
theorem read_open (fb sb cap c : Nat) (w : World) (hc : c < 4) (m : w.cell? ⟨fb, 1, none⟩ = some (.slice (some ⟨sb, 0, none⟩) 4 cap)) (s : w.cell? ⟨sb, c, none⟩ = some (.int .i32 (-1)))
    (b : w.cell? ⟨fb, 3, none⟩ = some (.int .i32 (-1))) (f : w.frozen? ⟨fb, 3, none⟩ = false) :
    Calls Yba.prog 23 #[.pointer (some ⟨fb, 0, none⟩), .int .i64 c] w fun e w' => e = .returned (.int .i32 (-1)) ∧ w' = w.setCell ⟨fb, 3, none⟩ (.int .i32 c) := by
  have hci : (c : Int) < 4 := by omega
  go_enter Yba.func23, Yba.ntmps23
  go_wp2
  go_ret
  exact ⟨rfl, rfl⟩

theorem const_any (a : Value) (pv : Addr) (x : Int) (w : World) (v : w.cell? pv = some (.int .i32 x)) :
    Calls Yba.prog 21 #[a, .pointer (some pv)] w fun e w' => e = .returned (.int .i32 x) ∧ w' = w := by
  go_enter Yba.func21, Yba.ntmps21
  go_wp2
  go_ret
  exact ⟨rfl, rfl⟩

theorem copy_closed (fb sb cap c : Nat) (x : Int) (pc : Addr) (w : World) (hc : c < 4) (hx : ¬ x = -1) (p : w.cell? pc = some (.int .i64 c)) (m : w.cell? ⟨fb, 1, none⟩ = some (.slice (some ⟨sb, 0, none⟩) 4 cap)) (s : w.cell? ⟨sb, c, none⟩ = some (.int .i32 x)) :
    Calls Yba.prog 22 #[.pointer (some ⟨fb, 0, none⟩), .pointer (some pc)] w fun e w' => e = .returned (.int .i32 x) ∧ w' = w := by
  go_enter Yba.func22, Yba.ntmps22
  go_wp2_with (go_at_call 23; refine (read_closed fb sb cap c x _ hc hx m s).mono ?_; rintro e w' ⟨rfl, rfl⟩)
  go_ret
  exact ⟨rfl, rfl⟩

theorem copy_open (fb sb cap c : Nat) (pc : Addr) (w : World) (hc : c < 4) (p : w.cell? pc = some (.int .i64 c)) (m : w.cell? ⟨fb, 1, none⟩ = some (.slice (some ⟨sb, 0, none⟩) 4 cap)) (s : w.cell? ⟨sb, c, none⟩ = some (.int .i32 (-1)))
    (b : w.cell? ⟨fb, 3, none⟩ = some (.int .i32 (-1))) (f : w.frozen? ⟨fb, 3, none⟩ = false) :
    Calls Yba.prog 22 #[.pointer (some ⟨fb, 0, none⟩), .pointer (some pc)] w fun e w' => e = .returned (.int .i32 (-1)) ∧ w' = w.setCell ⟨fb, 3, none⟩ (.int .i32 c) := by
  go_enter Yba.func22, Yba.ntmps22
  go_wp2_with (go_at_call 23; refine (read_open fb sb cap c _ hc m s b f).mono ?_; rintro e w' ⟨rfl, rfl⟩)
  go_ret
  exact ⟨rfl, rfl⟩

/-- What a comparison of a chosen cell says: 2 yes, 0 no. -/
def says (x v : Int) (want : Bool) : Int := if ((x == v) == want) = true then 2 else 0

set_option maxHeartbeats 400000 in
theorem eq_closed (fb sb cap c : Nat) (x v : Int) (want : Bool) (pc pv pw : Addr) (w : World) (hc : c < 4) (hx : ¬ x = -1) (p : w.cell? pc = some (.int .i64 c)) (q : w.cell? pv = some (.int .i32 v)) (r : w.cell? pw = some (.bool want))
    (m : w.cell? ⟨fb, 1, none⟩ = some (.slice (some ⟨sb, 0, none⟩) 4 cap)) (s : w.cell? ⟨sb, c, none⟩ = some (.int .i32 x)) :
    Calls Yba.prog 24 #[.pointer (some ⟨fb, 0, none⟩), .pointer (some pc), .pointer (some pv), .pointer (some pw)] w fun e w' => e = .returned (.int .i8 (says x v want)) ∧ w' = w := by
  have hb : (x == -1) = false := by simpa using hx
  unfold says
  by_cases h : ((x == v) == want) = true
  · rw [if_pos h]
    go_enter Yba.func24, Yba.ntmps24
    go_wp2_with (go_at_call 23; refine (read_closed fb sb cap c x _ hc hx m s).mono ?_; rintro e w' ⟨rfl, rfl⟩)
    go_ret
    exact ⟨rfl, rfl⟩
  · rw [if_neg h]
    have h' : ((x == v) == want) = false := by simpa using h
    go_enter Yba.func24, Yba.ntmps24
    go_wp2_with (go_at_call 23; refine (read_closed fb sb cap c x _ hc hx m s).mono ?_; rintro e w' ⟨rfl, rfl⟩)
    go_ret
    exact ⟨rfl, rfl⟩

set_option maxHeartbeats 400000 in
theorem eq_open (fb sb cap c : Nat) (v : Int) (want : Bool) (pc pv pw : Addr) (w : World) (hc : c < 4) (p : w.cell? pc = some (.int .i64 c)) (q : w.cell? pv = some (.int .i32 v)) (r : w.cell? pw = some (.bool want))
    (m : w.cell? ⟨fb, 1, none⟩ = some (.slice (some ⟨sb, 0, none⟩) 4 cap)) (s : w.cell? ⟨sb, c, none⟩ = some (.int .i32 (-1)))
    (b : w.cell? ⟨fb, 3, none⟩ = some (.int .i32 (-1))) (f : w.frozen? ⟨fb, 3, none⟩ = false) :
    Calls Yba.prog 24 #[.pointer (some ⟨fb, 0, none⟩), .pointer (some pc), .pointer (some pv), .pointer (some pw)] w fun e w' => e = .returned (.int .i8 1) ∧ w' = w.setCell ⟨fb, 3, none⟩ (.int .i32 c) := by
  go_enter Yba.func24, Yba.ntmps24
  go_wp2_with (go_at_call 23; refine (read_open fb sb cap c _ hc m s b f).mono ?_; rintro e w' ⟨rfl, rfl⟩)
  go_ret
  exact ⟨rfl, rfl⟩
end Go.Proofs.Ybulkbvqe
