/-
  WALKS for seat b3604aD: appendError onto a slice that the call owns; an append from whatever source.
-/
import Derived.Test.YbulkbvpqDoorParse
import Derived.Laws.AppendOwnNone
namespace Go.Proofs.YbulkbvpqDoor
open Go.ChangeShapes Go.WideShapes Go.ChangeAt Go.RowKit
set_option linter.unusedVariables false

/-- 'append(v, src...)', v the call's own, src nil or not. -/
theorem wpList_append_any {P : Program} (w : World) {ops : Array Oper} {rest : List Oper} {o : Oper} {a : Act} {Q : Exit → Act → World → Prop} (hgd : o.guard = none) (s x : Operand) (t : TypeId)
    (ho : o.op = .call { callee := .builtin .append, args := #[s, x], argTypes := #[t, t] })
    (base : Nat) (e : TypeId) (i : TypeInfo) (z : Value) (size bytes : Nat) (ht : P.underlying t = some (.slice e)) (hi : P.info? e = some i) (hz : i.zero = some z)
    (hsize : i.size = size) (hby : i.bytes = bytes) (hzs : z.cells.size = size) (hsz : 0 < size)
    (v : Value) (n : Nat) (xs : List Value) (hs : a.eval s = v) (hown : w.ownsRow base e size v n xs)
    (ao : Option Addr) (m c : Nat) (news : List Value) (hx : a.eval x = .slice ao m c) (hnone : ao = none → m = 0 ∧ c = 0) (hl : news.length = m * size) (hnews : ∀ ad, ao = some ad → ∀ j u, news[j]? = some u → w.cell? (ad.add j) = some u) (h1 : ∀ u ∈ news, u.oneCell' = true)
    (h63 : n + m ≤ maxLen) (hbytes : (n + m) * bytes ≤ 140737488355328) (hbase : base ≤ w.heap.size)
    (h : ∀ v' w', w'.ownsRow base e size v' (n + m) (xs ++ news) → w.grownBy w' v.ownBlock → (∀ j, v'.ownBlock = some j → w.heap.size ≤ j ∨ v.ownBlock = some j) → wpList P ops Q rest (a.put o.dst v') w') :
    wpList P ops Q (o :: rest) a w := by
  cases ao with
  | some ad =>
    refine wpList_append_own_at w hgd s x t ho base e i z size bytes ht hi hz hsize hby hzs hsz v n xs hs hown ad m c news hx hl (hnews ad rfl) h1 h63 hbytes hbase ?_
    intro v' w' g1 g2 _ g4
    refine h v' w' g1 g2 ?_
    intro j hj
    rcases g4 with g | g
    · exact .inr (g ▸ hj)
    · rw [g] at hj
      simp at hj
      exact .inl (by omega)
  | none =>
    obtain ⟨rfl, rfl⟩ := hnone rfl
    obtain rfl : news = [] := List.eq_nil_of_length_eq_zero (by simpa using hl)
    refine wpList_append_own_none hgd s x t ho base e i size ht hi v n xs hs hown hx ?_
    exact h v w (by simpa using hown) (World.grownBy.refl _ _) (fun j hj => .inr hj)

set_option maxHeartbeats 400000 in
theorem appErr_own (B : Nat) (sv : Value) (n : Nat) (xs : List Value) (code : Int) (b2 m c2 : Nat) (os : List Int) (w : World) (h0 : 0 ≤ code) (h1 : code ≤ 65535) (hn : n ≤ 10000) (hm : os.length = m) (hm1 : m ≤ 4096)
    (hown : w.ownsRow B 5 1 sv n xs) (hB : B ≤ w.heap.size) (hos : w.heap[b2]? = some (byteBlock os)) (hne : sv.ownBlock ≠ some b2) :
    Calls Ybad.prog 5 #[sv, .agg #[.int .u64 0, .int .u16 0, .slice none 0 0, .int .u16 0, .int .u16 code, .slice (some ⟨b2, 0, none⟩) m c2]] w fun e w' => ∃ v', e = .returned v' ∧
      w'.ownsRow B 5 1 v' (n + 4 + m) (xs ++ ([code / 256, code % 256, (m : Int) / 256, (m : Int) % 256] ++ os).map (Value.int .u8)) ∧ w.grownBy w' sv.ownBlock := by
  obtain ⟨i0, hi, hz0, hz1, hz2⟩ := info_parts Ybad.info5
  have H : Hid (os.length = m) := hm
  have HB : Hid (w.heap[b2]? = some (byteBlock os)) := hos
  have hb2 : b2 < w.heap.size := lt_of_block hos
  have hlt0 := hide hown.lt
  have HO0 := hide hown
  have HNE := hide hne
  clear hm hos hown hne
  go_enter Ybad.func5, Ybad.ntmps5
  go_wp2_with fail
  refine (app16_own B sv n xs code _ h0 h1 (by omega) (HO0.out.alloc _) (by simp; omega)).mono ?_
  rintro e w1 ⟨v1, rfl, hown1, hg1, hat1⟩
  have HO := hide hown1
  have c5 : w1.cell? ⟨w.heap.size, 5, none⟩ = some (.slice (some ⟨b2, 0, none⟩) m c2) := hg1.cell (box_cell w _ 29 5 _ rfl) (fun h => by have := (hlt0.out _ h.symm).2; simp at this)
  have HB1 : Hid (w1.heap[b2]? = some (byteBlock os)) := (hg1.block b2 (by simp; omega) (fun h => HNE.out h.symm)).trans ((Below.heap_alloc w _ b2 hb2).trans HB.out)
  have HG1 : Hid (w.grownBy w1 sv.ownBlock) := (World.grownBy_alloc w _ _).trans hg1
  have hs1 : w.heap.size + 1 ≤ w1.heap.size := by simpa using hg1.size
  have HAT1 : Hid (∀ j, v1.ownBlock = some j → w.heap.size + 1 ≤ j ∨ sv.ownBlock = some j) := hide (by simpa using hat1)
  clear hown1 hg1 HB hat1
  go_wp2_with fail
  refine (app16_own B v1 (n + 2) _ m _ (by omega) (by omega) (by omega) HO.out (by omega)).mono ?_
  rintro e w2 ⟨v2, rfl, hown2, hg2, hat⟩
  have hne1 : some w.heap.size ≠ v1.ownBlock := fun h => by
    rcases HAT1.out _ h.symm with g | g
    · omega
    · have := (hlt0.out _ g).2; omega
  have hne2 : some b2 ≠ v1.ownBlock := fun h => by
    rcases HAT1.out _ h.symm with g | g
    · omega
    · exact HNE.out g
  have c5' : w2.cell? ⟨w.heap.size, 5, none⟩ = some (.slice (some ⟨b2, 0, none⟩) m c2) := hg2.cell c5 hne1
  have HB2 : Hid (w2.heap[b2]? = some (byteBlock os)) := (hg2.block b2 (lt_of_block HB1.out) hne2).trans HB1.out
  have HG2 : Hid (w.grownBy w2 sv.ownBlock) := gb_then HG1.out hg2 (fun j hj => by
    rcases HAT1.out _ hj with g | g
    · exact .inl (by omega)
    · exact .inr g)
  have HAT2 : Hid (∀ j, v2.ownBlock = some j → w.heap.size ≤ j ∨ sv.ownBlock = some j) := fun j hj => by
    rcases hat _ hj with g | g
    · exact .inl (by omega)
    · rcases HAT1.out _ g with g | g
      · exact .inl (by omega)
      · exact .inr g
  have HO2 := hide hown2
  have hs2 : w1.heap.size ≤ w2.heap.size := hg2.size
  clear hown2 hg2 HB1 HG1 c5 HO hat hne1 hne2 HAT1
  go_wp2_with (at_builtin; refine wpList_append_own_at _ rfl _ _ 23 rfl B 5 i0 (.int .u8 0) 1 1 Ybad.underlying23 hi hz0 hz1 hz2 rfl (by decide) v2 (n + 2 + 2) _ rfl HO2.out ⟨b2, 0, none⟩ m c2 (os.map (Value.int .u8)) rfl ?d1 (byteBlock_cells HB2.out) (ints_oneCell _ _) ?d3 ?d4 ?d5 ?_)
  case d1 => simp [H.out]
  case d3 => unfold maxLen; omega
  case d4 => omega
  case d5 => omega
  intro v3 w3 hown3 hg3 _ _
  clear HO2 c5'
  go_wp2
  go_ret
  refine ⟨v3, rfl, ?_, gb_then HG2.out hg3 HAT2.out⟩
  simpa [Nat.add_assoc] using hown3
end Go.Proofs.YbulkbvpqDoor
