/-
  WALKS for seat b3604aD: zzs3604bclone.
-/
import Derived.Test.YbulkbvpqDoorWalks
namespace Go.Proofs.YbulkbvpqDoor
open Go.ChangeShapes Go.WideShapes Go.ChangeAt Go.RowKit
set_option linter.unusedVariables false

theorem Ybad.size5 : (Ybad.prog.info? 5).map (·.size) = some 1 := by kernel_rfl

/-- The block that holds a list of bytes. -/
def byteBlock (zs : List Int) : Obj := .cells (zs.map (Value.int .u8)).toArray 5 (0, 0)

theorem run_clone_copy (w : World) (g n c : Nat) (a : Option Addr) (zs : List Int) (cur : Array Value) (hg : w.heap[g]? = some (.cells cur 5 (0, 0))) (hcur : cur.size = n) (hn : zs.length = n) (h : Row w a zs) :
    ∃ w', (Builtin.copy_ #[23, 23] 3 #[.slice (some ⟨g, 0, none⟩) n n, .slice a n c]).run Ybad.prog w = .ok (goInt n) w' ∧ w'.heap[g]? = some (byteBlock zs) ∧ Below g w w' := by
  rcases h with h | ⟨b, o, ha, hc⟩
  · subst h
    simp at hn
    subst hn
    refine ⟨w, run_copy_none (P := Ybad.prog) w 23 23 3 5 _ _ _ _ _ _ Ybad.underlying23 Ybad.size5 (by simp), ?_, Below.refl _ _⟩
    rw [hg]
    have : cur = #[] := Array.eq_empty_of_size_eq_zero hcur
    simp [this, byteBlock]
  · subst ha
    have hr := run_copy_row (P := Ybad.prog) w 23 23 3 5 g 0 n n ⟨b, o, none⟩ n c cur 5 (zs.map (Value.int .u8)) Ybad.underlying23 Ybad.size5 hg (by simp [hn]) (by
        intro j v hj
        have hlt : j < zs.length := by
          have := (List.getElem?_eq_some_iff.1 hj).1
          simpa using this
        rw [Addr.add_lit, hc j hlt]
        simp [hlt] at hj
        simp [List.getD, hlt, hj]) (by simp; omega) (ints_oneCell _ _)
    have hl : (List.map (Value.int .u8) zs).length = n := by simp [hn]
    rw [hl] at hr
    refine ⟨_, hr, ?_, below_setRow (Below.refl _ _) (Nat.le_refl _) _⟩
    rw [setRow_heap w g _ _ 5 _ hg]
    have : cur.toList.drop (0 + n) = [] := List.drop_eq_nil_of_le (by simp; omega)
    rw [this]
    simp [byteBlock]

set_option maxHeartbeats 400000 in
theorem clone_any (a : Option Addr) (n c : Nat) (zs : List Int) (w : World) (hn : zs.length = n) (hm : n ≤ 4096) (h : Row w a zs) :
    Calls Ybad.prog 4 #[.slice a n c] w fun e w' => e = .returned (.slice (some ⟨w.heap.size, 0, none⟩) n n) ∧ w'.heap[w.heap.size]? = some (byteBlock zs) ∧ Below w.heap.size w w' := by
  have H : Hid (zs.length = n) := hn
  clear hn
  obtain ⟨i0, hi, hz0, hz1, hz2⟩ := info_parts Ybad.info5
  go_enter Ybad.func4, Ybad.ntmps4
  go_wp2_with (first | (at_make; refine wpList_make_full _ rfl _ _ 23 rfl w.heap.size 5 i0 (.int .u8 0) 1 Ybad.underlying23 hi hz0 hz1 .i64 .i64 n n n rfl rfl rfl rfl (by rw [hz2]; omega) (by unfold maxLen; omega) (Nat.le_refl _) ?_; intro w1 hown hgrow))
  have hb1 : Below w.heap.size w w1 := (Below.refl _ _).grown hgrow (Nat.le_refl _) (fun k hk => by cases hk)
  obtain ⟨_, hown⟩ := hown
  rcases hown with ⟨h1, _⟩ | ⟨g, cap, cur, hv, _, hh, hnc, _, hcs, _⟩
  · cases h1
  · simp at hv
    obtain ⟨rfl, rfl⟩ := hv
    have hrow : Row w1 a zs := h.below hb1 (Nat.le_refl _)
    obtain ⟨w2, hrun, hh2, hb2⟩ := run_clone_copy w1 w.heap.size n c a zs cur hh (by simpa using hcs) H.out hrow
    rw [hrun]
    clear hrun
    go_wp2
    go_ret
    exact ⟨rfl, hh2, hb1.trans hb2⟩
end Go.Proofs.YbulkbvpqDoor
