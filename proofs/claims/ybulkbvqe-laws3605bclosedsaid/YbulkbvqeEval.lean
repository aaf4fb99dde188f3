/-
  WALKS for seat b3605a: eval, set.
-/
import Derived.Test.YbulkbvqeFuns
import Derived.Deep.RegionHeld3
import Derived.Deep.DrawnRows
namespace Go.Proofs.Ybulkbvqe
open Go.ChangeShapes Go.WideShapes Go.ChangeAt Go.RowKit
set_option linter.unusedVariables false

/-- A cell beside the one that is written. -/
theorem beside {w : World} {b o b' o' : Nat} {v u : Value} (h : w.cell? ⟨b, o, none⟩ = some v) (hne : b ≠ b' ∨ o ≠ o') : (w.setCell ⟨b', o', none⟩ u).cell? ⟨b, o, none⟩ = some v := by
  rw [World.cell?_setCell_other]
  · exact h
  · simp; omega

set_option maxHeartbeats 400000 in
theorem eval_closed (fb rb sb cap c p q r : Nat) (x v : Int) (want : Bool) (y : Value) (w : World) (hc : c < 4) (hx : ¬ x = -1) (hp : p ≠ fb) (hq : q ≠ fb) (hr : r ≠ fb) (hs : sb ≠ fb)
    (cp : w.cell? ⟨p, 0, none⟩ = some (.int .i64 c)) (cq : w.cell? ⟨q, 0, none⟩ = some (.int .i32 v)) (cr : w.cell? ⟨r, 0, none⟩ = some (.bool want))
    (g : w.cell? ⟨rb, 0, none⟩ = some (.pointer (some ⟨fb, 0, none⟩))) (hrf : rb ≠ fb)
    (m : w.cell? ⟨fb, 1, none⟩ = some (.slice (some ⟨sb, 0, none⟩) 4 cap)) (s : w.cell? ⟨sb, c, none⟩ = some (.int .i32 x)) (b : w.cell? ⟨fb, 3, none⟩ = some y) (f : w.frozen? ⟨fb, 3, none⟩ = false) :
    Calls Yba.prog 13 #[.pointer (some ⟨rb, 0, none⟩), .func (.func 24) #[] #[.pointer (some ⟨p, 0, none⟩), .pointer (some ⟨q, 0, none⟩), .pointer (some ⟨r, 0, none⟩)]] w fun e w' => e = .returned (.int .i8 (says x v want)) ∧ w' = w.setCell ⟨fb, 3, none⟩ (.int .i32 (-1)) := by
  have HF := hide (And.intro cp (And.intro cq (And.intro cr (And.intro m s))))
  clear cp cq cr m s
  go_enter Yba.func13, Yba.ntmps13
  go_wp2_with fail
  refine (eq_closed fb sb cap c x v want _ _ _ _ hc hx (beside HF.out.1 (by omega)) (beside HF.out.2.1 (by omega)) (beside HF.out.2.2.1 (by omega)) (beside HF.out.2.2.2.1 (by omega)) (beside HF.out.2.2.2.2 (by omega))).mono ?_
  rintro e w' ⟨rfl, rfl⟩
  go_wp2_with fail
  go_ret
  exact ⟨rfl, rfl⟩

set_option maxHeartbeats 400000 in
theorem eval_open (fb rb sb cap c p q r : Nat) (v : Int) (want : Bool) (y : Value) (w : World) (hc : c < 4) (hp : p ≠ fb) (hq : q ≠ fb) (hr : r ≠ fb) (hs : sb ≠ fb)
    (cp : w.cell? ⟨p, 0, none⟩ = some (.int .i64 c)) (cq : w.cell? ⟨q, 0, none⟩ = some (.int .i32 v)) (cr : w.cell? ⟨r, 0, none⟩ = some (.bool want))
    (g : w.cell? ⟨rb, 0, none⟩ = some (.pointer (some ⟨fb, 0, none⟩))) (hrf : rb ≠ fb)
    (m : w.cell? ⟨fb, 1, none⟩ = some (.slice (some ⟨sb, 0, none⟩) 4 cap)) (s : w.cell? ⟨sb, c, none⟩ = some (.int .i32 (-1))) (b : w.cell? ⟨fb, 3, none⟩ = some y) (f : w.frozen? ⟨fb, 3, none⟩ = false) :
    Calls Yba.prog 13 #[.pointer (some ⟨rb, 0, none⟩), .func (.func 24) #[] #[.pointer (some ⟨p, 0, none⟩), .pointer (some ⟨q, 0, none⟩), .pointer (some ⟨r, 0, none⟩)]] w fun e w' => e = .returned (.int .i8 1) ∧ w' = (w.setCell ⟨fb, 3, none⟩ (.int .i32 (-1))).setCell ⟨fb, 3, none⟩ (.int .i32 c) := by
  have HF := hide (And.intro cp (And.intro cq (And.intro cr (And.intro m s))))
  clear cp cq cr m s
  go_enter Yba.func13, Yba.ntmps13
  go_wp2_with fail
  refine (eq_open fb sb cap c v want _ _ _ _ hc (beside HF.out.1 (by omega)) (beside HF.out.2.1 (by omega)) (beside HF.out.2.2.1 (by omega)) (beside HF.out.2.2.2.1 (by omega)) (beside HF.out.2.2.2.2 (by omega)) (by simp [World.cell?_setCell_same, b]) (by simp [f])).mono ?_
  rintro e w' ⟨rfl, rfl⟩
  go_wp2_with fail
  go_ret
  exact ⟨rfl, rfl⟩

theorem neq_fn65 (fn : Fn) (a b : Array Value) (w : World) : (binOp .neq 65 (.func fn a b) .nilFunc).run Yba.prog w = .ok (.bool true) w := by kernel_rfl
theorem neq_fn52 (fn : Fn) (a b : Array Value) (w : World) : (binOp .neq 52 (.func fn a b) .nilFunc).run Yba.prog w = .ok (.bool true) w := by kernel_rfl

set_option maxHeartbeats 400000 in
theorem set_const (fb rb sb cap sm c p : Nat) (x : Int) (y z : Value) (w : World) (hc : c < 4) (hx : ¬ x = -1) (hp : p ≠ fb) (hs : sb ≠ fb) (hsm : sm ≠ fb) (hrf : rb ≠ fb)
    (k0 : w.cell? ⟨sm, 0, none⟩ = some (.int .i64 c)) (k1 : w.cell? ⟨sm, 1, none⟩ = some (.func (.func 21) #[] #[.pointer (some ⟨p, 0, none⟩)])) (cp : w.cell? ⟨p, 0, none⟩ = some (.int .i32 x))
    (g : w.cell? ⟨rb, 0, none⟩ = some (.pointer (some ⟨fb, 0, none⟩)))
    (m : w.cell? ⟨fb, 1, none⟩ = some (.slice (some ⟨sb, 0, none⟩) 4 cap)) (s : w.cell? ⟨sb, c, none⟩ = some z) (fs : w.frozen? ⟨sb, c, none⟩ = false) (b : w.cell? ⟨fb, 3, none⟩ = some y) (f : w.frozen? ⟨fb, 3, none⟩ = false) :
    Calls Yba.prog 16 #[.pointer (some ⟨rb, 0, none⟩), .pointer (some ⟨sm, 0, none⟩)] w fun e w' => e = .returned (.bool true) ∧ ∃ n, w' = ((w.setCell ⟨fb, 3, none⟩ (.int .i32 (-1))).drewN n).setCell ⟨sb, c, none⟩ (.int .i32 x) := by
  have hb : (x == -1) = false := by simpa using hx
  have hci : (c : Int) < 4 := by omega
  have hnf := neq_fn65
  have hcp : (w.setCell ⟨fb, 3, none⟩ (.int .i32 (-1))).cell? ⟨p, 0, none⟩ = some (.int .i32 x) := beside cp (by omega)
  have hr0 : (w.setCell ⟨fb, 3, none⟩ (.int .i32 (-1))).cell? ⟨rb, 0, none⟩ = some (.pointer (some ⟨fb, 0, none⟩)) := beside g (by omega)
  have hk0 : (w.setCell ⟨fb, 3, none⟩ (.int .i32 (-1))).cell? ⟨sm, 0, none⟩ = some (.int .i64 c) := beside k0 (by omega)
  have hk1 : (w.setCell ⟨fb, 3, none⟩ (.int .i32 (-1))).cell? ⟨sm, 1, none⟩ = some (.func (.func 21) #[] #[.pointer (some ⟨p, 0, none⟩)]) := beside k1 (by omega)
  have hm : (w.setCell ⟨fb, 3, none⟩ (.int .i32 (-1))).cell? ⟨fb, 1, none⟩ = some (.slice (some ⟨sb, 0, none⟩) 4 cap) := beside m (by omega)
  have hsc : (w.setCell ⟨fb, 3, none⟩ (.int .i32 (-1))).cell? ⟨sb, c, none⟩ = some z := beside s (by omega)
  have hf2 : (w.setCell ⟨fb, 3, none⟩ (.int .i32 (-1))).frozen? ⟨sb, c, none⟩ = false := by simpa using fs
  clear k0 cp m s fs
  go_enter Yba.func16, Yba.ntmps16
  go_wp2_with fail
  clear k1 g b f
  generalize hW : w.setCell ⟨fb, 3, none⟩ (.int .i32 (-1)) = W at *
  have HW := hide hW
  clear hW
  go_quiet ((go_at_call 21; exact Calls.quiet_of_same (const_any _ _ x _ (by simpa using hcp))))
  go_wp2_with fail
  go_region
  all_goals (try go_wp2)
  all_goals go_ret
  exact ⟨rfl, _, by rw [HW.out]⟩

set_option maxHeartbeats 400000 in
theorem set_copy (fb rb sb cap sm c d p : Nat) (x : Int) (y z : Value) (w : World) (hc : c < 4) (hd : d < 4) (hx : ¬ x = -1) (hp : p ≠ fb) (hs : sb ≠ fb) (hsm : sm ≠ fb) (hrf : rb ≠ fb)
    (k0 : w.cell? ⟨sm, 0, none⟩ = some (.int .i64 c)) (k1 : w.cell? ⟨sm, 1, none⟩ = some (.func (.func 22) #[] #[.pointer (some ⟨p, 0, none⟩)])) (cp : w.cell? ⟨p, 0, none⟩ = some (.int .i64 d))
    (g : w.cell? ⟨rb, 0, none⟩ = some (.pointer (some ⟨fb, 0, none⟩)))
    (m : w.cell? ⟨fb, 1, none⟩ = some (.slice (some ⟨sb, 0, none⟩) 4 cap)) (s : w.cell? ⟨sb, c, none⟩ = some z) (sd : w.cell? ⟨sb, d, none⟩ = some (.int .i32 x)) (fs : w.frozen? ⟨sb, c, none⟩ = false) (b : w.cell? ⟨fb, 3, none⟩ = some y) (f : w.frozen? ⟨fb, 3, none⟩ = false) :
    Calls Yba.prog 16 #[.pointer (some ⟨rb, 0, none⟩), .pointer (some ⟨sm, 0, none⟩)] w fun e w' => e = .returned (.bool true) ∧ ∃ n, w' = ((w.setCell ⟨fb, 3, none⟩ (.int .i32 (-1))).drewN n).setCell ⟨sb, c, none⟩ (.int .i32 x) := by
  have hb : (x == -1) = false := by simpa using hx
  have hci : (c : Int) < 4 := by omega
  have hnf := neq_fn65
  have hcp : (w.setCell ⟨fb, 3, none⟩ (.int .i32 (-1))).cell? ⟨p, 0, none⟩ = some (.int .i64 d) := beside cp (by omega)
  have hr0 : (w.setCell ⟨fb, 3, none⟩ (.int .i32 (-1))).cell? ⟨rb, 0, none⟩ = some (.pointer (some ⟨fb, 0, none⟩)) := beside g (by omega)
  have hk0 : (w.setCell ⟨fb, 3, none⟩ (.int .i32 (-1))).cell? ⟨sm, 0, none⟩ = some (.int .i64 c) := beside k0 (by omega)
  have hk1 : (w.setCell ⟨fb, 3, none⟩ (.int .i32 (-1))).cell? ⟨sm, 1, none⟩ = some (.func (.func 22) #[] #[.pointer (some ⟨p, 0, none⟩)]) := beside k1 (by omega)
  have hm : (w.setCell ⟨fb, 3, none⟩ (.int .i32 (-1))).cell? ⟨fb, 1, none⟩ = some (.slice (some ⟨sb, 0, none⟩) 4 cap) := beside m (by omega)
  have hsc : (w.setCell ⟨fb, 3, none⟩ (.int .i32 (-1))).cell? ⟨sb, c, none⟩ = some z := beside s (by omega)
  have hsd : (w.setCell ⟨fb, 3, none⟩ (.int .i32 (-1))).cell? ⟨sb, d, none⟩ = some (.int .i32 x) := beside sd (by omega)
  have hf2 : (w.setCell ⟨fb, 3, none⟩ (.int .i32 (-1))).frozen? ⟨sb, c, none⟩ = false := by simpa using fs
  clear k0 cp m s fs sd
  go_enter Yba.func16, Yba.ntmps16
  go_wp2_with fail
  clear k1 g b f
  generalize hW : w.setCell ⟨fb, 3, none⟩ (.int .i32 (-1)) = W at *
  have HW := hide hW
  have HD := hide hsd
  clear hW hsd
  go_quiet ((go_at_call 22; exact Calls.quiet_of_same (copy_closed fb sb cap d x _ _ hd hx (by simpa using hcp) (by simpa using hm) (by simpa using HD.out))))
  go_wp2_with fail
  go_region
  all_goals (try go_wp2)
  all_goals go_ret
  exact ⟨rfl, _, by rw [HW.out]⟩

set_option maxHeartbeats 400000 in
theorem set_open (fb rb sb cap sm d p : Nat) (y : Value) (w : World) (hd : d < 4) (hp : p ≠ fb) (hs : sb ≠ fb) (hsm : sm ≠ fb) (hrf : rb ≠ fb)
    (k1 : w.cell? ⟨sm, 1, none⟩ = some (.func (.func 22) #[] #[.pointer (some ⟨p, 0, none⟩)])) (cp : w.cell? ⟨p, 0, none⟩ = some (.int .i64 d))
    (g : w.cell? ⟨rb, 0, none⟩ = some (.pointer (some ⟨fb, 0, none⟩)))
    (m : w.cell? ⟨fb, 1, none⟩ = some (.slice (some ⟨sb, 0, none⟩) 4 cap)) (sd : w.cell? ⟨sb, d, none⟩ = some (.int .i32 (-1))) (b : w.cell? ⟨fb, 3, none⟩ = some y) (f : w.frozen? ⟨fb, 3, none⟩ = false) :
    Calls Yba.prog 16 #[.pointer (some ⟨rb, 0, none⟩), .pointer (some ⟨sm, 0, none⟩)] w fun e w' => e = .returned (.bool false) ∧ ∃ n, w' = ((w.setCell ⟨fb, 3, none⟩ (.int .i32 (-1))).drewN n).setCell ⟨fb, 3, none⟩ (.int .i32 d) := by
  have hnf := neq_fn65
  have hcp : (w.setCell ⟨fb, 3, none⟩ (.int .i32 (-1))).cell? ⟨p, 0, none⟩ = some (.int .i64 d) := beside cp (by omega)
  have hr0 : (w.setCell ⟨fb, 3, none⟩ (.int .i32 (-1))).cell? ⟨rb, 0, none⟩ = some (.pointer (some ⟨fb, 0, none⟩)) := beside g (by omega)
  have hk1 : (w.setCell ⟨fb, 3, none⟩ (.int .i32 (-1))).cell? ⟨sm, 1, none⟩ = some (.func (.func 22) #[] #[.pointer (some ⟨p, 0, none⟩)]) := beside k1 (by omega)
  have hm : (w.setCell ⟨fb, 3, none⟩ (.int .i32 (-1))).cell? ⟨fb, 1, none⟩ = some (.slice (some ⟨sb, 0, none⟩) 4 cap) := beside m (by omega)
  have hsd : (w.setCell ⟨fb, 3, none⟩ (.int .i32 (-1))).cell? ⟨sb, d, none⟩ = some (.int .i32 (-1)) := beside sd (by omega)
  have hb3 : (w.setCell ⟨fb, 3, none⟩ (.int .i32 (-1))).cell? ⟨fb, 3, none⟩ = some (.int .i32 (-1)) := by simp [World.cell?_setCell_same, b]
  have hf3 : (w.setCell ⟨fb, 3, none⟩ (.int .i32 (-1))).frozen? ⟨fb, 3, none⟩ = false := by simpa using f
  clear cp m sd
  go_enter Yba.func16, Yba.ntmps16
  go_wp2_with fail
  clear k1 g b f
  generalize hW : w.setCell ⟨fb, 3, none⟩ (.int .i32 (-1)) = W at *
  have HW := hide hW
  have HD := hide (And.intro hcp (And.intro hm (And.intro hsd (And.intro hb3 hf3))))
  clear hW hsd hcp hm hb3 hf3
  go_region_held3 (fun w' => w'.cell? ⟨sm, 1, none⟩ = some (.func (.func 22) #[] #[.pointer (some ⟨p, 0, none⟩)]) ∧ w'.cell? ⟨rb, 0, none⟩ = some (.pointer (some ⟨fb, 0, none⟩)))
    (first | exact ⟨hk1, hr0⟩ | exact ⟨beside (And.left (by assumption)) (by omega), beside (And.right (by assumption)) (by omega)⟩)
    (first | (go_at_call 22; refine (copy_open fb sb cap d ⟨p, 0, none⟩ W.drew hd HD.out.1 HD.out.2.1 HD.out.2.2.1 HD.out.2.2.2.1 HD.out.2.2.2.2).mono ?_; rintro e w' ⟨rfl, rfl⟩))
  go_wp2
  go_ret
  exact ⟨rfl, 1, by rw [HW.out]; rfl⟩
end Go.Proofs.Ybulkbvqe
