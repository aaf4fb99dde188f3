/-
  SEAT b3605a: the arguments, opened: a slice of bytes, a slice of operations.
-/
import Derived.Test.YbulkbvqeClosed
import Derived.ProofKit
import Derived.OpenShut
import Derived.Deep.Slices
namespace Go.Proofs.Ybulkbvqe
open Go.ChangeShapes Go.WideShapes Go.ChangeAt Go.RowKit
set_option linter.unusedVariables false

theorem cells5 : Yba.prog.cellsOf 5 = 1 := by kernel_rfl
theorem cells33 : Yba.prog.cellsOf 33 = 5 := by kernel_rfl

/-- One operation's cells. -/
theorem op_cells {H : Type} {enc : TypeId × Value → H} {w : World} {n : Nat} {cs : List Value} {x : DataW H × List MemPlace} (h : DataW.trod enc Yba.prog w 0 (fun _ => true) true n 33 cs = some x) :
    ∃ q : Nat × Nat × Nat × Nat × Nat, cs = [.int .u8 (q.1 : Nat), .int .u8 (q.2.1 : Nat), .int .u8 (q.2.2.1 : Nat), .int .u8 (q.2.2.2.1 : Nat), .int .u8 (q.2.2.2.2 : Nat)] := by
  obtain ⟨xs, k, hk, hxy, hlen, hxl, hf⟩ := DataW.trod_struct Yba.underlying33 h
  rw [cells33] at hlen
  match xs, hxl, cs, hlen with
  | [y0, y1, y2, y3, y4], _, [v0, v1, v2, v3, v4], _ =>
    have g0 := hf 0 _ rfl
    have g1 := hf 1 _ rfl
    have g2 := hf 2 _ rfl
    have g3 := hf 3 _ rfl
    have g4 := hf 4 _ rfl
    simp [cells5] at g0 g1 g2 g3 g4
    obtain ⟨n0, e0, _, b0⟩ := DataW.trod_int Yba.underlying5 g0
    obtain ⟨n1, e1, _, b1⟩ := DataW.trod_int Yba.underlying5 g1
    obtain ⟨n2, e2, _, b2⟩ := DataW.trod_int Yba.underlying5 g2
    obtain ⟨n3, e3, _, b3⟩ := DataW.trod_int Yba.underlying5 g3
    obtain ⟨n4, e4, _, b4⟩ := DataW.trod_int Yba.underlying5 g4
    have r0 := bounds_u8 b0
    have r1 := bounds_u8 b1
    have r2 := bounds_u8 b2
    have r3 := bounds_u8 b3
    have r4 := bounds_u8 b4
    have z : ∀ m : Int, 0 ≤ m → ((m.toNat : Nat) : Int) = m := fun m hm => by omega
    refine ⟨(n0.toNat, n1.toNat, n2.toNat, n3.toNat, n4.toNat), ?_⟩
    simp only [z n0 r0.1, z n1 r1.1, z n2 r2.1, z n3 r3.1, z n4 r4.1]
    simp at e0 e1 e2 e3 e4
    rw [e0, e1, e2, e3, e4]

theorem ops_of {H : Type} {enc : TypeId × Value → H} {w : World} {fuel : Nat} {a : Option Addr} {n c : Nat} {x : DataW H × List MemPlace} (h : DataW.trod enc Yba.prog w 0 (fun _ => true) true fuel 23 [.slice a n c] = some x) :
    n ≤ maxLen ∧ ∃ ops : Nat → O5, OpsAt w a n ops := by
  rcases Go.Deep.open_slice Yba.underlying23 h with ⟨hcs, _⟩ | ⟨ad, len, cap, m, k, D, Pl, hcs, hb, hl, hm, hmm, _, hx⟩
  · simp at hcs
    obtain ⟨rfl, rfl, rfl⟩ := hcs
    exact ⟨Nat.zero_le _, fun _ => ⟨0, 0, 0, 0, 0⟩, .inl rfl⟩
  · simp at hcs
    obtain ⟨rfl, rfl, rfl⟩ := hcs
    simp only [if_true] at hmm
    subst hmm
    refine ⟨Nat.le_trans hl hm, ?_⟩
    rw [cells33] at hx
    obtain ⟨q, hq⟩ := Go.Deep.choose_lt (α := Nat × Nat × Nat × Nat × Nat) (n := m) (p := fun i q => w.cell? (ad.add (i * 5)) = some (.int .u8 (q.1 : Nat)) ∧ w.cell? (ad.add (i * 5 + 1)) = some (.int .u8 (q.2.1 : Nat)) ∧ w.cell? (ad.add (i * 5 + 2)) = some (.int .u8 (q.2.2.1 : Nat)) ∧
        w.cell? (ad.add (i * 5 + 3)) = some (.int .u8 (q.2.2.2.1 : Nat)) ∧ w.cell? (ad.add (i * 5 + 4)) = some (.int .u8 (q.2.2.2.2 : Nat))) (fun i hi => by
      obtain ⟨cs', h1, h2⟩ := hx i hi
      obtain ⟨q, rfl⟩ := op_cells h2
      obtain ⟨_, hlen, hcell⟩ := World.cells?_some h1
      have e0 := hcell 0 (by omega)
      have e1 := hcell 1 (by omega)
      have e2 := hcell 2 (by omega)
      have e3 := hcell 3 (by omega)
      have e4 := hcell 4 (by omega)
      rw [Go.Deep.add_add] at e0 e1 e2 e3 e4
      exact ⟨q, by simpa using e0, by simpa using e1, by simpa using e2, by simpa using e3, by simpa using e4⟩)
    refine ⟨fun i => ⟨(q i).1, (q i).2.1, (q i).2.2.1, (q i).2.2.2.1, (q i).2.2.2.2⟩, ?_⟩
    by_cases h0 : n = 0
    · exact .inl h0
    · obtain ⟨b, o, sp⟩ := ad
      have hs : sp = none := by simpa [Addr.add] using World.cell?_spot (hq 0 (by omega)).1
      subst hs
      refine .inr ⟨b, o, rfl, World.block_lt_of_cell? _ _ (hq 0 (by omega)).1, fun j hj => ?_⟩
      obtain ⟨k0, k1, k2, k3, k4⟩ := hq j (by omega)
      rw [Addr.add_lit] at k0 k1 k2 k3 k4
      exact ⟨k0, k1, k2, k3, k4⟩

theorem in_of {H : Type} {enc : TypeId × Value → H} {w : World} {fuel : Nat} {a : Option Addr} {n c : Nat} {x : DataW H × List MemPlace} (h : DataW.trod enc Yba.prog w 0 (fun _ => true) true fuel 22 [.slice a n c] = some x) :
    n ≤ maxLen ∧ ∃ z : Nat → Int, (∀ i, 0 ≤ z i ∧ z i ≤ 255) ∧ InAt w a n z := by
  rcases open_ints Yba.underlying22 Yba.underlying5 (by kernel_rfl) h with ⟨hcs, _⟩ | ⟨ad, l, cc, zs, hcs, _, hl, hm, hz, _, hcell, hwz⟩
  · simp at hcs
    obtain ⟨rfl, rfl, rfl⟩ := hcs
    exact ⟨Nat.zero_le _, fun _ => 0, fun _ => by simp, .inl rfl⟩
  · simp at hcs
    obtain ⟨rfl, rfl, rfl⟩ := hcs
    have hz' : zs.length = c := by simpa using hz
    refine ⟨Nat.le_trans hl hm, fun i => zs.getD i 0, fun i => ?_, ?_⟩
    · by_cases h : i < zs.length
      · have := bounds_u8 (hwz (zs.getD i 0) (by simp [List.getD, h]))
        omega
      · simp [List.getD, h]
    · by_cases h0 : n = 0
      · exact .inl h0
      · obtain ⟨b, o, sp⟩ := ad
        have hs : sp = none := by simpa [Addr.add] using World.cell?_spot (hcell 0 (by omega))
        subst hs
        refine .inr ⟨b, o, rfl, World.block_lt_of_cell? _ _ (hcell 0 (by omega)), fun i hi => ?_⟩
        have := hcell i (by omega)
        rwa [Addr.add_lit] at this

set_option maxHeartbeats 400000 in
theorem closed_big (a0 : Option Addr) (n0 c0 : Nat) (ao : Option Addr) (n c : Nat) (w : World) (hn : 512 < n) (hm : n ≤ maxLen) :
    Calls Yba.prog 3 #[.slice a0 n0 c0, .slice ao n c] w fun e w' => e = .returned (.bool true) ∧ Below w.heap.size w w' := by
  unfold maxLen at hm
  have hn' : (512 : Int) < (n : Int) := by omega
  go_enter Yba.func3, Yba.ntmps3
  go_wp2
  go_ret
  exact ⟨rfl, Below.refl _ _⟩
set_option maxHeartbeats 400000 in
theorem open_big (a0 : Option Addr) (n0 c0 : Nat) (ao : Option Addr) (n c : Nat) (w : World) (hn : 512 < n) (hm : n ≤ maxLen) :
    Calls Yba.prog 4 #[.slice a0 n0 c0, .slice ao n c] w fun e w' => e = .returned (.bool true) ∧ Below w.heap.size w w' := by
  unfold maxLen at hm
  have hn' : (512 : Int) < (n : Int) := by omega
  go_enter Yba.func4, Yba.ntmps4
  go_wp2
  go_ret
  exact ⟨rfl, Below.refl _ _⟩
end Go.Proofs.Ybulkbvqe
