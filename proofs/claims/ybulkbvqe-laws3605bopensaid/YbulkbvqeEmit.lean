/-
  WALKS for seat b3605a: slices.Clone at []int32, the closure that emits.
-/
import Derived.Test.YbulkbvqeInv
import Derived.Maps.AppendAt
import Derived.Deep.RegionHeld3
import Derived.Deep.DrawnRows
import Derived.Deep.AppendLies
namespace Go.Proofs.Ybulkbvqe
open Go.ChangeShapes Go.WideShapes Go.ChangeAt Go.RowKit
set_option linter.unusedVariables false


theorem Yba.info21 : (Yba.prog.info? 21).map (fun i => (i.zero, i.size, i.bytes)) = some (some (.int .i32 0), 1, 4) := by kernel_rfl
theorem Yba.info24 : (Yba.prog.info? 24).map (fun i => (i.zero, i.size, i.bytes)) = some (some (.slice none 0 0), 1, 24) := by kernel_rfl
theorem eql_slice_nil (a : Addr) (n c : Nat) (w : World) : (binOp .eql 24 (.slice (some a) n c) (.slice none 0 0)).run Yba.prog w = .ok (.bool false) w := by kernel_rfl

/-- What is owned as a row of four int32 is a state. -/
theorem owned_st {w : World} {B : Nat} {v : Value} {st : List Int} (hl : st.length = 4) (h : w.ownsRow B 21 1 v 4 (st.map (Value.int .i32))) : ∃ b c, v = .slice (some ⟨b, 0, none⟩) 4 c ∧ B ≤ b ∧ St w b st := by
  rcases h.2 with ⟨_, h2⟩ | ⟨b, c, cur, hv, hB, hh, _, _, _, ht⟩
  · cases h2
  · refine ⟨b, c, hv, hB, cur.toList.drop (4 * 1), ?_⟩
    rw [← ht, List.take_append_drop]
    simpa using hh

set_option maxHeartbeats 400000 in
theorem clone4 (sb cap : Nat) (st : List Int) (w : World) (hl : st.length = 4) (hS : St w sb st) :
    Calls Yba.prog 5 #[.slice (some ⟨sb, 0, none⟩) 4 cap] w fun e w' => ∃ b c, e = .returned (.slice (some ⟨b, 0, none⟩) 4 c) ∧ w.heap.size ≤ b ∧ St w' b st ∧ w.grownBy w' none := by
  have hen := eql_slice_nil
  obtain ⟨z0, hi, hz0, hz1, hz2⟩ := info_parts Yba.info21
  have HS := hide hS
  clear hS
  go_enter Yba.func5, Yba.ntmps5
  go_wp2_with (at_builtin; refine wpList_append_grows _ rfl _ _ 24 rfl 21 z0 (.int .i32 0) 1 4 Yba.underlying24 hi hz0 hz1 hz2 rfl (by decide) (some ⟨w.heap.size, 0, none⟩) 0 0 [] rfl (by intro h; cases h) rfl (by intro b hb j u hj; simp at hj) ⟨sb, 0, none⟩ 4 cap (st.map (Value.int .i32)) rfl (by simp [hl]) ?c1 (ints_oneCell _ _) (by decide) (by decide) (by decide) ?_)
  case c1 =>
    intro j u hj
    have hlt : j < st.length := by
      have := (List.getElem?_eq_some_iff.1 hj).1
      simpa using this
    have hlt' : j < 4 := by omega
    rw [Addr.add_lit, Nat.zero_add]
    refine (World.grownBy_alloc w _ none).cell ?_ (by simp)
    rw [(HS.out.cell j hlt).1]
    simp [hlt] at hj
    simp [List.getD, hlt, hj]
  · intro v' w1 hown hg
    go_wp2
    go_ret
    have hg' : w.grownBy w1 none := (World.grownBy_alloc w _ none).trans hg
    obtain ⟨b, c, rfl, hB, hst⟩ := owned_st hl (by simpa using hown)
    exact ⟨b, c, rfl, by omega, hst, hg'⟩

/-- The log's variable and its row behind new blocks. -/
theorem log_after {w w1 : World} {lb B n : Nat} {lv : Value} {xs : List Value} (hL : w.heap[lb]? = some (.cells #[lv] 27 (0, 0))) (hO : w.ownsRow B 24 1 lv n xs) (hB : B ≤ w.heap.size) (hg : w.drew.grownBy w1 none) :
    w1.cell? ⟨lb, 0, none⟩ = some lv ∧ w1.frozen? ⟨lb, 0, none⟩ = false ∧ w1.ownsRow B 24 1 lv n xs ∧ B ≤ w1.heap.size ∧ lb < w1.heap.size := by
  have h1 : w1.heap[lb]? = some (.cells #[lv] 27 (0, 0)) := (hg.block lb (lt_of_block hL) (by simp)).trans hL
  refine ⟨by simp only [World.cell?, h1]; rfl, by simp only [World.frozen?, h1]; rfl, ?_, Nat.le_trans hB hg.size, lt_of_block h1⟩
  exact owns_same hO fun k cs _ hh => (hg.block k (lt_of_block hh) (by simp)).trans hh

/-- .. and behind the append. -/
theorem log_cell {w w1 w2 : World} {o : Obj} {lb B n : Nat} {lv : Value} {xs : List Value} (hL : w.heap[lb]? = some (.cells #[lv] 27 (0, 0))) (hg : w.drew.grownBy w1 none) (hO : w1.ownsRow B 24 1 lv n xs) (hg2 : (w1.alloc o).grownBy w2 lv.ownBlock) :
    w2.cell? ⟨lb, 0, none⟩ = some lv ∧ w2.frozen? ⟨lb, 0, none⟩ = false := by
  have h1 : w1.heap[lb]? = some (.cells #[lv] 27 (0, 0)) := (hg.block lb (lt_of_block hL) (by simp)).trans hL
  have h2 : w2.heap[lb]? = some (.cells #[lv] 27 (0, 0)) := by
    rw [hg2.block lb (by have := lt_of_block h1; simp; omega) (fun e => ?_), Below.heap_alloc _ _ _ (lt_of_block h1)]
    · exact h1
    · rcases hO.2 with ⟨rfl, _⟩ | ⟨b, cap, cur, rfl, _, hb, _⟩
      · cases e
      · simp [Value.ownBlock] at e
        subst e
        rw [hb] at h1
        cases h1
  exact ⟨by simp only [World.cell?, h2]; rfl, by simp only [World.frozen?, h2]; rfl⟩

theorem step_wanted {P : Program} {ops : Array Oper} {o : Oper} {a : Act} {w : World} {K : Act → World → Prop} {Q : Exit → Act → World → Prop} {E : Prop} (hg : o.guard = none) (h : Oper.wp P o a w K Q) :
    if Region.wanted o (yielded ops a.tmps) = true then Oper.wp P o a w K Q else E := by
  rw [if_pos (by simp [Region.wanted, hg])]
  exact h

theorem Elems.snoc {g : Gh} {w : World} {e : List Int} {b c : Nat} (hb : g.P1 ≤ b) (hs : St w b e) : ∀ {es : List (List Int)} {bs : List Nat} {xs : List Value}, Elems g w es bs xs → Elems g w (es ++ [e]) (bs ++ [b]) (xs ++ [.slice (some ⟨b, 0, none⟩) 4 c])
  | [], [], [], _ => ⟨⟨c, rfl⟩, hb, hs, trivial⟩
  | _ :: _, _ :: _, _ :: _, h => ⟨h.1, h.2.1, h.2.2.1, Elems.snoc hb hs h.2.2.2⟩
  | [], [], _ :: _, h => h.elim
  | [], _ :: _, _, h => h.elim
  | _ :: _, [], _, h => h.elim
  | _ :: _, _ :: _, [], h => h.elim

/-- THE EMISSION's END, in plain words on worlds. -/
theorem emit_fin {g : Gh} {wp w w1 w2 : World} {mv lv : Value} {bl : Int} {es : List (List Int)} {bs : List Nat} {xs : List Value} {sb b1 c1 g2 cap2 : Nat} {st : List Int} {o : Obj}
    (hI : Inv g wp w mv bl es bs) (hL : w.heap[g.lb]? = some (.cells #[lv] 27 (0, 0))) (hO : w.ownsRow g.P1 24 1 lv es.length xs) (hE : Elems g w es bs xs) (hg1 : w.drew.grownBy w1 none) (hb1 : w.heap.size ≤ b1) (hs1 : St w1 b1 st) (hg2 : (w1.alloc o).grownBy w2 lv.ownBlock)
    (hown2 : w2.ownsRow g.P1 24 1 (.slice (some ⟨g2, 0, none⟩) (es.length + 1) cap2) (es.length + 1) (xs ++ [.slice (some ⟨b1, 0, none⟩) 4 c1])) :
    ∃ b, w.heap.size ≤ b ∧ Inv g wp (w2.setCell ⟨g.lb, 0, none⟩ (.slice (some ⟨g2, 0, none⟩) (es.length + 1) cap2)) mv bl (es ++ [st]) (bs ++ [b]) ∧ Frm g sb w (w2.setCell ⟨g.lb, 0, none⟩ (.slice (some ⟨g2, 0, none⟩) (es.length + 1) cap2)) := by
  obtain ⟨o1, o2, o3, o4, o5⟩ := hI.ok
  have hz := hI.sz
  have hz1 : w.heap.size ≤ w1.heap.size := hg1.size
  have hO1 : w1.ownsRow g.P1 24 1 lv es.length xs := owns_same hO fun k cs _ hh => (hg1.block k (lt_of_block hh) (by simp)).trans hh
  -- a block of another tag than the log's rows
  have kp : ∀ (k : Nat) (cs : Array Value) (t : TypeId) (fz : Nat × Nat), w1.heap[k]? = some (Obj.cells cs t fz) → t ≠ 24 → w2.heap[k]? = some (Obj.cells cs t fz) := by
    intro k cs t fz hh ht
    have hlt := lt_of_block hh
    rw [hg2.block k (by simp; omega) (fun e => ?_), Below.heap_alloc w1 o k hlt]
    · exact hh
    · rcases hO1.2 with ⟨rfl, _⟩ | ⟨b, cap, cur, rfl, _, hb, _⟩
      · cases e
      · simp [Value.ownBlock] at e
        subst e
        rw [hb] at hh
        cases hh
        exact ht rfl
  have lo : ∀ k, k < g.P1 → w2.heap[k]? = w.heap[k]? := by
    intro k hk
    rw [hg2.block k (by simp; omega) (fun e => by have := (hO1.lt k e.symm).1; omega), Below.heap_alloc w1 o k (by omega)]
    exact hg1.block k (by simpa using (by omega : k < w.heap.size)) (by simp)
  have hi : ∀ (k : Nat) (cs : Array Value) (t : TypeId) (fz : Nat × Nat), w.heap[k]? = some (Obj.cells cs t fz) → t ≠ 24 → w2.heap[k]? = some (Obj.cells cs t fz) := fun k cs t fz hh ht => kp k cs t fz ((hg1.block k (lt_of_block hh) (by simp)).trans hh) ht
  have hz2 : w.heap.size ≤ w2.heap.size := by have := hg2.size; simp at this; omega
  have st1 : ∀ k, k ≠ g.lb → (w2.setCell ⟨g.lb, 0, none⟩ (.slice (some ⟨g2, 0, none⟩) (es.length + 1) cap2)).heap[k]? = w2.heap[k]? := fun k hk => Below.heap_setCell _ _ _ _ hk
  refine ⟨b1, hb1, ⟨hI.ok, by simp [World.setCell]; omega, ?_, ?_, ?_, ?_, ?_⟩, ⟨?_, ?_, ?_, by simp [World.setCell]; omega, ?_, ?_⟩⟩
  · rw [st1 _ (by omega), lo _ (by omega)]; exact hI.fr
  · obtain ⟨wv, k, ys, h1, h2⟩ := hI.rn
    refine ⟨wv, k, ys, by rw [st1 _ (by omega), lo _ (by omega)]; exact h1, owns_same h2 fun k' cs hB hh => ?_⟩
    rw [st1 _ (by omega)]
    exact hi k' cs 78 _ hh (by decide)
  · refine ⟨.slice (some ⟨g2, 0, none⟩) (es.length + 1) cap2, xs ++ [.slice (some ⟨b1, 0, none⟩) 4 c1], ?_, ?_, ?_⟩
    · have h2 : w2.heap[g.lb]? = some (.cells #[lv] 27 (0, 0)) := by rw [lo _ (by omega)]; exact hL
      simpa using heap_setCell_at (k := 0) (v := .slice (some ⟨g2, 0, none⟩) (es.length + 1) cap2) h2
    · rw [List.length_append]
      exact owns_same hown2 fun k cs hB hh => by rw [st1 _ (by omega)]; exact hh
    · refine Elems.snoc (by omega) ?_ (hE.carried ?_)
      · obtain ⟨tail, ht⟩ := hs1
        exact ⟨tail, by rw [st1 _ (by omega)]; exact kp _ _ _ _ ht (by decide)⟩
      · intro b hb hbP st' hst
        obtain ⟨tail, ht⟩ := hst
        exact ⟨tail, by rw [st1 _ (by omega)]; exact hi _ _ _ _ ht (by decide)⟩
  · rw [st1 _ (by omega), lo _ (by omega)]; exact hI.dm
  · intro k h0 h1; rw [st1 _ (by omega), lo _ (by omega)]; exact hI.pr k h0 h1
  · exact (hg2.os.trans hg1.os)
  · exact (hg2.tape.trans hg1.tape)
  · exact (hg2.output.trans hg1.output)
  · intro k hk h1 _ _ _; rw [st1 _ h1, lo _ hk]
  · intro k cs t fz hk _ hh ht _; rw [st1 _ (by omega)]; exact hi k cs t fz hh ht

set_option maxHeartbeats 1000000 in
theorem emit_any (g : Gh) (wp w : World) (mv : Value) (bl : Int) (es : List (List Int)) (bs : List Nat) (sb cap : Nat) (st : List Int) (hI : Inv g wp w mv bl es bs) (hl : st.length = 4) (hS : St w sb st) (hn : es.length ≤ 1000) :
    Calls Yba.prog 10 #[.slice (some ⟨sb, 0, none⟩) 4 cap, .pointer (some ⟨g.lb, 0, none⟩)] w fun e w' => e = .returned (.tuple #[]) ∧ ∃ b, w.heap.size ≤ b ∧ Inv g wp w' mv bl (es ++ [st]) (bs ++ [b]) ∧ Frm g sb w w' := by
  obtain ⟨z0, hi, hz0, hz1, hz2⟩ := info_parts Yba.info24
  obtain ⟨lv, xs, hL, hO, hE⟩ := hI.lg
  have k0 : w.cell? ⟨g.lb, 0, none⟩ = some lv := by simp only [World.cell?, hL]; rfl
  have hB := hI.sz
  have HS := hide hS
  have HL := hide hL
  have HO := hide hO
  have HE := hide hE
  have HI := hide hI
  clear hS hL hO hE hI
  go_enter Yba.func10, Yba.ntmps10
  go_wp2_with fail
  go_region_law ((first | (refine step_wanted (by rfl) ?_; go_simp; go_at_call 5; refine (clone4 sb cap st w.drew hl HS.out).mono ?_; rintro e w1 ⟨b1, c1, rfl, hb1, hs1, hg1⟩; obtain ⟨k1, kf1, ho1, hB1, hl1⟩ := log_after HL.out HO.out hB hg1) | (refine step_append_lies _ (by rfl) _ _ _ (by rfl) g.P1 24 z0 (.slice none 0 0) 1 24 Yba.underlying27 hi hz0 hz1 hz2 rfl (by decide) lv es.length xs (by rfl) (ho1.alloc _) ⟨w1.heap.size, 0, none⟩ 1 1 [.slice (some ⟨b1, 0, none⟩) 4 c1] (by rfl) (by rfl) (World.news_of_block (cs := #[.slice (some ⟨b1, 0, none⟩) 4 c1]) (t := 24) (fr := (0, 0)) (heap_alloc_new w1 _)) (by simp [Value.oneCell']) (by decide) (by unfold maxLen; omega) (by omega) (by simp; omega) (w1.heap.size + 1) (by simp) ?_; intro g2 cap2 w2 hown2 hgrow2 hat2 hlt2; obtain ⟨k2, kf2⟩ := log_cell HL.out hg1 ho1 hgrow2)))
  all_goals go_wp2
  all_goals go_end0
  all_goals exact ⟨rfl, emit_fin HI.out HL.out HO.out HE.out hg1 hb1 hs1 hgrow2 hown2⟩
end Go.Proofs.Ybulkbvqe
