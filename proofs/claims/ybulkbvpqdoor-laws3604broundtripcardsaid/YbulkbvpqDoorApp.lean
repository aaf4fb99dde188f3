/-
  WALKS for seat b3604aD: AppendUint16, appendError.
-/
import Derived.Test.YbulkbvpqDoorClone
import Derived.Maps.AppendAt
namespace Go.Proofs.YbulkbvpqDoor
open Go.ChangeShapes Go.WideShapes Go.ChangeAt Go.RowKit
set_option linter.unusedVariables false

theorem hide {p : Prop} (h : p) : Hid p := h

theorem gb_then {a b c : World} {row row' : Option Nat} (h : a.grownBy b row) (k : b.grownBy c row') (hr : ∀ j, row' = some j → a.heap.size ≤ j ∨ row = some j) : a.grownBy c row :=
  ⟨k.os.trans h.os, k.tape.trans h.tape, k.output.trans h.output, Nat.le_trans h.size k.size, fun i hi hne => by
    rw [k.block i (Nat.lt_of_lt_of_le hi h.size) (fun e => by
      rcases hr i e.symm with h1 | h1
      · omega
      · exact hne h1.symm)]
    exact h.block i hi hne⟩

/-- The two cells that 'byte(v>>8), byte(v)' lays in a new block behind another. -/
theorem two_new (w : World) (o : Obj) (x y : Value) (t : TypeId) : ∀ j u, [x, y][j]? = some u → ((w.alloc o).alloc (.cells #[x, y] t)).cell? ((⟨w.heap.size + 1, 0, none⟩ : Addr).add j) = some u := by
  intro j u hj
  have hh : ((w.alloc o).alloc (.cells #[x, y] t)).heap[w.heap.size + 1]? = some (.cells #[x, y] t (0, 0)) := by
    have := heap_alloc_new (w.alloc o) (.cells #[x, y] t)
    simpa using this
  match j, hj with
  | 0, hj => simp at hj; subst hj; rw [Addr.add_lit]; simp only [World.cell?, hh]; rfl
  | 1, hj => simp at hj; subst hj; rw [Addr.add_lit]; simp only [World.cell?, hh]; rfl
  | j + 2, hj => simp at hj

set_option maxHeartbeats 400000 in
theorem app16_own (B : Nat) (sv : Value) (n : Nat) (xs : List Value) (v : Int) (w : World) (h0 : 0 ≤ v) (h1 : v ≤ 65535) (hn : n ≤ 100000) (hown : w.ownsRow B 5 1 sv n xs) (hB : B ≤ w.heap.size) :
    Calls Ybad.prog 8 #[.agg #[], sv, .int .u16 v] w fun e w' => ∃ v', e = .returned v' ∧ w'.ownsRow B 5 1 v' (n + 2) (xs ++ [.int .u8 (v / 256), .int .u8 (v % 256)]) ∧ w.grownBy w' sv.ownBlock ∧ (∀ j, v'.ownBlock = some j → w.heap.size ≤ j ∨ sv.ownBlock = some j) := by
  obtain ⟨i0, hi, hz0, hz1, hz2⟩ := info_parts Ybad.info5
  have hlt := hown.lt
  go_enter Ybad.func8, Ybad.ntmps8
  go_wp2_with (at_builtin; refine wpList_append_own_at _ rfl _ _ 23 rfl B 5 i0 (.int .u8 0) 1 1 Ybad.underlying23 hi hz0 hz1 hz2 rfl (by decide) sv n xs rfl ((hown.alloc _).alloc _) ⟨w.heap.size + 1, 0, none⟩ 2 2 [.int .u8 (v / 256), .int .u8 (v % 256)] rfl rfl (two_new w _ _ _ _) ?c2 ?c3 ?c4 ?c5 ?_)
  case c2 => simp [Value.oneCell']
  case c3 => unfold maxLen; omega
  case c4 => omega
  case c5 => simp; omega
  · intro v' w1 hown1 hgrow _ hat
    clear hown
    go_wp2
    go_ret
    refine ⟨v', rfl, hown1, ?_, ?_⟩
    · exact gb_then ((World.grownBy_alloc w _ sv.ownBlock).trans (World.grownBy_alloc _ _ _)) hgrow (fun j hj => .inr hj)
    · intro j hj
      rcases hat with h | h
      · exact .inr (h ▸ hj)
      · rw [h] at hj
        simp at hj
        exact .inl (by omega)

set_option maxHeartbeats 400000 in
theorem app16_grow (ao : Option Addr) (n cap : Nat) (zs : List Int) (v : Int) (w : World) (h0 : 0 ≤ v) (h1 : v ≤ 65535) (hz : zs.length = n) (hn : n ≤ 100000) (hcap : cap < n + 2) (hnone : ao = none → n = 0 ∧ cap = 0) (hrow : Row w ao zs) :
    Calls Ybad.prog 8 #[.agg #[], .slice ao n cap, .int .u16 v] w fun e w' => ∃ v', e = .returned v' ∧ w'.ownsRow w.heap.size 5 1 v' (n + 2) (zs.map (Value.int .u8) ++ [.int .u8 (v / 256), .int .u8 (v % 256)]) ∧ w.grownBy w' none := by
  obtain ⟨i0, hi, hz0, hz1, hz2⟩ := info_parts Ybad.info5
  have H : Hid (zs.length = n) := hz
  clear hz
  go_enter Ybad.func8, Ybad.ntmps8
  go_wp2_with (at_builtin; refine wpList_append_grows _ rfl _ _ 23 rfl 5 i0 (.int .u8 0) 1 1 Ybad.underlying23 hi hz0 hz1 hz2 rfl (by decide) ao n cap (zs.map (Value.int .u8)) rfl hnone ?c6 ?c7 ⟨w.heap.size + 1, 0, none⟩ 2 2 [.int .u8 (v / 256), .int .u8 (v % 256)] rfl rfl (two_new w _ _ _ _) ?c2 ?c1 ?c3 ?c4 ?_)
  case c1 => omega
  case c2 => simp [Value.oneCell']
  case c3 => unfold maxLen; omega
  case c4 => omega
  case c6 => simp [H.out]
  case c7 =>
    intro b hb j u hj
    have hr := (hrow.below ((Below.refl w.heap.size w).alloc (Nat.le_refl _) (.cells #[] 38)) (Nat.le_refl _))
    have hr2 := hr.below ((Below.refl _ _).alloc (Nat.le_refl _) (Obj.cells #[Value.int .u8 (v / 256), Value.int .u8 (v % 256)] 5)) (Nat.le_refl _)
    have hlt : j < zs.length := by
      have := (List.getElem?_eq_some_iff.1 hj).1
      simpa using this
    rcases hr2 with h | ⟨b', o', h, hc⟩
    · simp [h] at hlt
    · rw [hb] at h
      cases h
      rw [Addr.add_lit, hc j hlt]
      simp [hlt] at hj
      simp [List.getD, hlt, hj]
  · intro v' w1 hown1 hgrow
    clear hrow
    go_wp2
    go_ret
    refine ⟨v', rfl, ?_, ?_⟩
    · obtain ⟨g1, g2⟩ := hown1
      refine ⟨g1, ?_⟩
      rcases g2 with g2 | ⟨g, cp, cur, e1, e2, e3⟩
      · exact .inl g2
      · exact .inr ⟨g, cp, cur, e1, by omega, e3⟩
    · exact ((World.grownBy_alloc w _ none).trans (World.grownBy_alloc _ _ _)).trans hgrow

theorem box_cell (w : World) (cs : Array Value) (t : TypeId) (k : Nat) (v : Value) (hk : cs[k]? = some v) : (w.alloc (.cells cs t)).cell? ⟨w.heap.size, k, none⟩ = some v := by
  have := heap_alloc_new w (.cells cs t)
  simp only [World.cell?, this]
  exact hk

/-- What a block of bytes holds, cell by cell. -/
theorem byteBlock_cells {w : World} {b : Nat} {os : List Int} (h : w.heap[b]? = some (byteBlock os)) : ∀ j u, (os.map (Value.int .u8))[j]? = some u → w.cell? ((⟨b, 0, none⟩ : Addr).add j) = some u := by
  intro j u hj
  rw [Addr.add_lit]
  simp only [World.cell?, h, byteBlock, Nat.zero_add]
  simpa using hj

theorem lt_of_block {w : World} {b : Nat} {o : Obj} (h : w.heap[b]? = some o) : b < w.heap.size := (Array.getElem?_eq_some_iff.1 h).1

/-- What is owned from B on is owned from any smaller number on. -/
theorem owns_mono {w : World} {B B' : Nat} {e : TypeId} {size : Nat} {v : Value} {n : Nat} {xs : List Value} (h : w.ownsRow B e size v n xs) (hB : B' ≤ B) : w.ownsRow B' e size v n xs := by
  obtain ⟨g1, g2⟩ := h
  refine ⟨g1, ?_⟩
  rcases g2 with g2 | ⟨g, cp, cur, e1, e2, e3⟩
  · exact .inl g2
  · exact .inr ⟨g, cp, cur, e1, by omega, e3⟩

set_option maxHeartbeats 400000 in
theorem appErr_grow (ao : Option Addr) (n cap : Nat) (zs : List Int) (code : Int) (b2 m c2 : Nat) (os : List Int) (w : World) (h0 : 0 ≤ code) (h1 : code ≤ 65535) (hz : zs.length = n) (hn : n ≤ 10000) (hm : os.length = m) (hm1 : m ≤ 4096)
    (hcap : cap < n + 2) (hnone : ao = none → n = 0 ∧ cap = 0) (hrow : Row w ao zs) (hos : w.heap[b2]? = some (byteBlock os)) :
    Calls Ybad.prog 5 #[.slice ao n cap, .agg #[.int .u64 0, .int .u16 0, .slice none 0 0, .int .u16 0, .int .u16 code, .slice (some ⟨b2, 0, none⟩) m c2]] w fun e w' => ∃ v', e = .returned v' ∧
      w'.ownsRow w.heap.size 5 1 v' (n + 4 + m) ((zs ++ [code / 256, code % 256, (m : Int) / 256, (m : Int) % 256] ++ os).map (Value.int .u8)) ∧ w.grownBy w' none := by
  obtain ⟨i0, hi, hz0, hz1, hz2⟩ := info_parts Ybad.info5
  have H : Hid (zs.length = n ∧ os.length = m) := ⟨hz, hm⟩
  have HB : Hid (w.heap[b2]? = some (byteBlock os)) := hos
  have hb2 : b2 < w.heap.size := lt_of_block hos
  clear hz hm hos
  go_enter Ybad.func5, Ybad.ntmps5
  go_wp2_with fail
  refine (app16_grow ao n cap zs code _ h0 h1 H.out.1 (by omega) hcap hnone (hrow.below ((Below.refl _ _).alloc (Nat.le_refl _) _) (Nat.le_refl _))).mono ?_
  rintro e w1 ⟨v1, rfl, hown1, hg1⟩
  have HO : Hid (w1.ownsRow (w.heap.size + 1) 5 1 v1 (n + 2) (zs.map (Value.int .u8) ++ [.int .u8 (code / 256), .int .u8 (code % 256)])) := hide (by simpa using hown1)
  have c5 : w1.cell? ⟨w.heap.size, 5, none⟩ = some (.slice (some ⟨b2, 0, none⟩) m c2) := hg1.cell (box_cell w _ 29 5 _ rfl) (by simp)
  have HB1 : Hid (w1.heap[b2]? = some (byteBlock os)) := (hg1.block b2 (by simp; omega) (by simp)).trans ((Below.heap_alloc w _ b2 hb2).trans HB.out)
  have HG1 : Hid (w.grownBy w1 none) := (World.grownBy_alloc w _ none).trans hg1
  have hs1 : w.heap.size + 1 ≤ w1.heap.size := by simpa using hg1.size
  clear hown1 hg1 HB hrow
  go_wp2_with fail
  refine (app16_own (w.heap.size + 1) v1 (n + 2) _ m _ (by omega) (by omega) (by omega) HO.out (by simpa using hs1)).mono ?_
  rintro e w2 ⟨v2, rfl, hown2, hg2, hat⟩
  have hlt1 := HO.out.lt
  have c5' : w2.cell? ⟨w.heap.size, 5, none⟩ = some (.slice (some ⟨b2, 0, none⟩) m c2) := hg2.cell c5 (fun h => by have := hlt1 _ h.symm; simp at this; omega)
  have HB2 : Hid (w2.heap[b2]? = some (byteBlock os)) := (hg2.block b2 (lt_of_block HB1.out) (fun h => by have := hlt1 _ h.symm; omega)).trans HB1.out
  have HG2 : Hid (w.grownBy w2 none) := gb_then HG1.out hg2 (fun j hj => .inl (by have := hlt1 _ hj; omega))
  have HO2 := hide hown2
  have hs2 : w1.heap.size ≤ w2.heap.size := hg2.size
  clear hown2 hg2 HB1 HG1 c5 HO hlt1 hat
  go_wp2_with (at_builtin; refine wpList_append_own_at _ rfl _ _ 23 rfl (w.heap.size + 1) 5 i0 (.int .u8 0) 1 1 Ybad.underlying23 hi hz0 hz1 hz2 rfl (by decide) v2 (n + 2 + 2) _ rfl HO2.out ⟨b2, 0, none⟩ m c2 (os.map (Value.int .u8)) rfl ?d1 (byteBlock_cells HB2.out) (ints_oneCell _ _) ?d3 ?d4 ?d5 ?_)
  case d1 => simp [H.out.2]
  case d3 => unfold maxLen; omega
  case d4 => omega
  case d5 => omega
  intro v3 w3 hown3 hg3 _ _
  have hlt2 := HO2.out.lt
  clear HO2 c5'
  go_wp2
  go_ret
  refine ⟨v3, rfl, ?_, gb_then HG2.out hg3 (fun j hj => .inl (by have := hlt2 _ hj; omega))⟩
  have := owns_mono hown3 (B' := w.heap.size) (by omega)
  simpa [Nat.add_assoc] using this
end Go.Proofs.YbulkbvpqDoor
