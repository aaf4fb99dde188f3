/-
  WALKS for seat b3604aD: the byte helpers of LawS3604BExact.
-/
import Derived.Test.YbulkbvpqDoorRows
import Derived.WalkKit
import Derived.ProofKit
import Derived.WalkSpells
import Derived.ArgAppend
import Derived.Laws.CopyOwn
import Derived.Deep.QuietTactic
import Derived.BigQuiet
import Derived.Below
namespace Go.Proofs.YbulkbvpqDoor
open Go.ChangeShapes Go.WideShapes Go.ChangeAt Go.RowKit
set_option linter.unusedVariables false

/-- A slice's elements, in the world w, are the numbers zs (of kind uint8). -/
def Row (w : World) (a : Option Addr) (zs : List Int) : Prop :=
  zs = [] ∨ ∃ b o, a = some ⟨b, o, none⟩ ∧ ∀ i, i < zs.length → w.cell? ⟨b, o + i, none⟩ = some (.int .u8 (zs.getD i 0))

theorem Row.drewN {w : World} {a : Option Addr} {zs : List Int} (h : Row w a zs) (k : Nat) : Row (w.drewN k) a zs := by
  rcases h with h | ⟨b, o, h, hc⟩
  · exact .inl h
  · exact .inr ⟨b, o, h, fun i hi => by have := hc i hi; simpa using this⟩

theorem Row.below {w w' : World} {a : Option Addr} {zs : List Int} (h : Row w a zs) {B : Nat} (hb : Below B w w') (hB : w.heap.size ≤ B) : Row w' a zs := by
  rcases h with h | ⟨b, o, h, hc⟩
  · exact .inl h
  · exact .inr ⟨b, o, h, fun i hi => (hb.cell (p := ⟨b, o + i, none⟩) (Nat.lt_of_lt_of_le (World.block_lt_of_cell? w ⟨b, o + i, none⟩ (hc i hi)) hB)).trans (hc i hi)⟩

theorem Ybad.info5 : (Ybad.prog.info? 5).map (fun i => (i.zero, i.size, i.bytes)) = some (some (.int .u8 0), 1, 1) := by kernel_rfl

set_option maxHeartbeats 400000 in
theorem eq_any (a a' : Option Addr) (n c c' : Nat) (zs : List Int) (w : World) (hn : zs.length = n) (hm : n ≤ 9223372036854775807) (h : Row w a zs) (h' : Row w a' zs) :
    Calls Ybad.prog 7 #[.slice a n c, .slice a' n c'] w fun e w' => e = .returned (.bool true) ∧ ∃ k, w' = w.drewN k := by
  have H : Hid (zs.length = n) := hn
  clear hn
  go_enter Ybad.func7, Ybad.ntmps7
  go_wp2
  go_loopw [5] (fun i wr => ∃ k : Nat, k ≤ n ∧ i = .int .i64 k ∧ ∃ q, wr = w.drewN q) (fun i _ => n - (intOf i).toNat)
  case atStart => exact ⟨0, Nat.zero_le _, rfl, 0, rfl⟩
  case round =>
    obtain ⟨k, hk, rfl, q, rfl⟩ := hrel
    by_cases hlt : k < n
    · rcases h with h | ⟨b, o, ha, hc⟩
      · rw [h] at H; have := H.out; simp at this; omega
      · rcases h' with h' | ⟨b', o', ha', hc'⟩
        · rw [h'] at H; have := H.out; simp at this; omega
        · have g1 := hc k (by rw [H.out]; exact hlt)
          have g2 := hc' k (by rw [H.out]; exact hlt)
          clear hc hc'
          rw [ha, ha']
          have hi : (k : Int) < (n : Int) := by omega
          go_wp2
          go_quiet (fail)
          go_wp2
          go_roundw
          case rel => exact ⟨k + 1, by omega, by go_num, _, rfl⟩
          case measure => simp [intOf]; omega
    · go_wp2
      go_ret
      exact ⟨rfl, _, rfl⟩
end Go.Proofs.YbulkbvpqDoor
