/-
  WALKS for seat b3605a: advance, assign.
-/
import Derived.Test.YbulkbvqeEval
import Derived.Test.YbulkbvqeInv
import Derived.Maps.AppendAt
namespace Go.Proofs.Ybulkbvqe
open Go.ChangeShapes Go.WideShapes Go.ChangeAt Go.RowKit
set_option linter.unusedVariables false

theorem Yba.info78 : (Yba.prog.info? 78).map (fun i => (i.zero, i.size, i.bytes)) = some (some (.agg #[.int .i64 0, .int .i32 0]), 2, 16) := by kernel_rfl

theorem advance_nil (w : World) : Calls Yba.prog 20 #[.slice none 0 0, .slice none 0 0, .slice none 0 0] w fun e w' => e = .returned (.bool false) ∧ w' = w := by
  go_enter Yba.func20, Yba.ntmps20
  go_wp2
  refine wp_loop_rounds 1 ?_
  rw [rounds_succ]
  go_wp2
  go_ret
  exact ⟨rfl, rfl⟩

/-- An assignment, compiled: place c, the value a comparison of cell d with v. -/
structure AsgAt (w : World) (sm p q r c d : Nat) (v : Int) : Prop where
  s : w.heap[sm]? = some (.cells #[.bool true, .int .i64 c, .int .i64 1, .slice none 0 0, .slice none 0 0, .slice none 0 0, .slice none 0 0, .slice none 0 0, .func (.func 24) #[] #[.pointer (some ⟨p, 0, none⟩), .pointer (some ⟨q, 0, none⟩), .pointer (some ⟨r, 0, none⟩)]] 76 (0, 0))
  p : w.heap[p]? = some (.cells #[.int .i64 d] 3 (0, 0))
  q : w.heap[q]? = some (.cells #[.int .i32 v] 21 (0, 0))
  r : w.heap[r]? = some (.cells #[.bool true] 4 (0, 0))

theorem cell_at {w : World} {b k : Nat} {cs : Array Value} {t : TypeId} {v : Value} (h : w.heap[b]? = some (.cells cs t (0, 0))) (hk : cs[k]? = some v) : w.cell? ⟨b, k, none⟩ = some v ∧ w.frozen? ⟨b, k, none⟩ = false := by
  refine ⟨?_, ?_⟩
  · simp only [World.cell?, h]; exact hk
  · simp only [World.frozen?, h]; simp

/-- What the walk asks of an assignment's cells. -/
theorem AsgAt.cells {w : World} {sm p q r c d : Nat} {v : Int} (h : AsgAt w sm p q r c d v) :
    w.cell? ⟨sm, 1, none⟩ = some (.int .i64 c) ∧ w.cell? ⟨sm, 4, none⟩ = some (.slice none 0 0) ∧ w.cell? ⟨sm, 5, none⟩ = some (.slice none 0 0) ∧ w.cell? ⟨sm, 6, none⟩ = some (.slice none 0 0) ∧ w.cell? ⟨sm, 7, none⟩ = some (.slice none 0 0) ∧
      w.cell? ⟨sm, 8, none⟩ = some (.func (.func 24) #[] #[.pointer (some ⟨p, 0, none⟩), .pointer (some ⟨q, 0, none⟩), .pointer (some ⟨r, 0, none⟩)]) ∧ w.cell? ⟨p, 0, none⟩ = some (.int .i64 d) ∧ w.cell? ⟨q, 0, none⟩ = some (.int .i32 v) ∧ w.cell? ⟨r, 0, none⟩ = some (.bool true) :=
  ⟨(cell_at h.s rfl).1, (cell_at h.s rfl).1, (cell_at h.s rfl).1, (cell_at h.s rfl).1, (cell_at h.s rfl).1, (cell_at h.s rfl).1, (cell_at h.p rfl).1, (cell_at h.q rfl).1, (cell_at h.r rfl).1⟩

/-- WHAT AN ASSIGNMENT MAY TURN of what was there: the runner's own block, the state's; behind P1 no row of another tag than the writes' (78). -/
structure Kp (g : Gh) (sb : Nat) (w w' : World) : Prop where
  os : w'.os = w.os
  tape : w'.tape = w.tape
  output : w'.output = w.output
  size : w.heap.size ≤ w'.heap.size
  low : ∀ k, k < g.P1 → k ≠ g.rb → k ≠ sb → w'.heap[k]? = w.heap[k]?
  cold : ∀ k cs t fz, g.P1 ≤ k → k ≠ sb → w.heap[k]? = some (.cells cs t fz) → t ≠ 78 → w'.heap[k]? = some (.cells cs t fz)

theorem Kp.trans {g : Gh} {sb : Nat} {a b c : World} (h : Kp g sb a b) (k : Kp g sb b c) : Kp g sb a c :=
  ⟨k.os.trans h.os, k.tape.trans h.tape, k.output.trans h.output, Nat.le_trans h.size k.size, fun i h1 h2 h3 => (k.low i h1 h2 h3).trans (h.low i h1 h2 h3), fun i cs t fz h1 h2 hh h3 => k.cold i cs t fz h1 h2 (h.cold i cs t fz h1 h2 hh h3) h3⟩
theorem Kp.grown {g : Gh} {sb : Nat} {w w' : World} (hg : w.grownBy w' none) (hP : g.P1 ≤ w.heap.size) : Kp g sb w w' :=
  ⟨hg.os, hg.tape, hg.output, hg.size, fun k hk _ _ => hg.block k (by omega) (by simp), fun k cs t fz _ _ hh _ => (hg.block k (lt_of_block hh) (by simp)).trans hh⟩
theorem Kp.setCell {g : Gh} {sb b o : Nat} {v : Value} {w : World} (hb : b = sb ∨ b = g.rb) (ho : g.ok) : Kp g sb w (w.setCell ⟨b, o, none⟩ v) := by
  obtain ⟨o1, o2, o3, o4, o5⟩ := ho
  refine ⟨rfl, rfl, rfl, by simp [World.setCell], fun k hk h1 h2 => Below.heap_setCell _ _ _ _ (by simp; omega), fun k cs t fz hk h4 hh _ => ?_⟩
  rw [Below.heap_setCell _ _ _ _ (by simp; omega)]
  exact hh
theorem Kp.append {g : Gh} {sb : Nat} {w w' : World} {v : Value} {n : Nat} {xs : List Value} (ho : w.ownsRow g.P1 78 2 v n xs) (hg : w.grownBy w' v.ownBlock) (hP : g.P1 ≤ w.heap.size) : Kp g sb w w' := by
  refine ⟨hg.os, hg.tape, hg.output, hg.size, fun k hk _ _ => hg.block k (by omega) (fun h => ?_), fun k cs t fz hk _ hh ht => (hg.block k (lt_of_block hh) (fun h => ?_)).trans hh⟩
  · have := (ho.lt k h.symm).1; omega
  · rcases ho.2 with ⟨rfl, _⟩ | ⟨b, cap, cur, rfl, _, hb, _⟩
    · cases h
    · simp [Value.ownBlock] at h
      subst h
      rw [hb] at hh
      cases hh
      exact ht rfl
theorem Kp.toFrm {g : Gh} {sb : Nat} {w w' : World} (h : Kp g sb w w') : Frm g sb w w' :=
  ⟨h.os, h.tape, h.output, h.size, fun k h1 _ _ h4 h5 => h.low k h1 h4 h5, fun k cs t fz h1 h2 hh _ h4 => h.cold k cs t fz h1 h2 hh h4⟩

theorem Inv.after {g : Gh} {wp w w' : World} {mv : Value} {bl : Int} {es : List (List Int)} {bs : List Nat} (h : Inv g wp w mv bl es bs) {sb : Nat} (hf : Free g sb bs) {st : List Int} (hs : St w sb st) (hk : Kp g sb w w')
    {wv : Value} {n : Nat} {ys : List Value} (hr : w'.heap[g.rb]? = some (runnerB g wv)) (ho : w'.ownsRow g.P1 78 2 wv n ys) : Inv g wp w' mv bl es bs := by
  obtain ⟨o1, o2, o3, o4, o5⟩ := h.ok
  have hf1 := hf.1
  have low : ∀ k, k < g.P1 → k ≠ g.rb → k ≠ sb → w'.heap[k]? = w.heap[k]? := hk.low
  refine ⟨h.ok, Nat.le_trans h.sz hk.size, (low _ (by omega) (by omega) (by omega)).trans h.fr, ⟨wv, n, ys, hr, ho⟩, ?_, (low _ (by omega) (by omega) (by omega)).trans h.dm, fun k h0 h1 => (low k h1 (by omega) (by omega)).trans (h.pr k h0 h1)⟩
  obtain ⟨lv, xs, h1, h2, h3⟩ := h.lg
  obtain ⟨tail, ht⟩ := hs
  refine ⟨lv, xs, (low _ (by omega) (by omega) (by omega)).trans h1, owns_same h2 (fun k cs hB hh => hk.cold k cs 24 _ hB (fun e => ?_) hh (by decide)), h3.carried (fun b hb hbP st' hst => ?_)⟩
  · subst e
    rw [ht] at hh
    cases hh
  · obtain ⟨tl, htl⟩ := hst
    exact ⟨tl, hk.cold b _ 21 _ hbP (fun e => hf.2 (e ▸ hb)) htl (by decide)⟩

theorem two_at (w : World) (x y : Value) (t : TypeId) : ∀ j u, [x, y][j]? = some u → (w.alloc (.cells #[x, y] t)).cell? ((⟨w.heap.size, 0, none⟩ : Addr).add j) = some u := by
  intro j u hj
  have hh := heap_alloc_new w (.cells #[x, y] t)
  match j, hj with
  | 0, hj => simp at hj; subst hj; rw [Addr.add_lit]; simp only [World.cell?, hh]; rfl
  | 1, hj => simp at hj; subst hj; rw [Addr.add_lit]; simp only [World.cell?, hh]; rfl
  | j + 2, hj => simp at hj

/-- A block of another tag than the writes' behind an append to the writes. -/
theorem app_kept {w w' : World} {o : Obj} {v : Value} {B n : Nat} {xs : List Value} (ho : w.ownsRow B 78 2 v n xs) (hg : (w.alloc o).grownBy w' v.ownBlock) {k : Nat} {cs : Array Value} {t : TypeId} {fz : Nat × Nat} (h : w.heap[k]? = some (.cells cs t fz)) (ht : t ≠ 78) : w'.heap[k]? = some (.cells cs t fz) := by
  have hlt := lt_of_block h
  rw [hg.block k (by simp; omega) (fun e => ?_), Below.heap_alloc w o k hlt]
  · exact h
  · rcases ho.2 with ⟨rfl, _⟩ | ⟨b, cap, cur, rfl, _, hb, _⟩
    · cases e
    · simp [Value.ownBlock] at e
      subst e
      rw [hb] at h
      cases h
      exact ht rfl

/-- One write is owned: its two cells. -/
theorem owned_one {w : World} {B : Nat} {v : Value} {x y : Value} (h : w.ownsRow B 78 2 v 1 [x, y]) : ∃ b c, v = .slice (some ⟨b, 0, none⟩) 1 c ∧ B ≤ b ∧ w.cell? ⟨b, 0, none⟩ = some x ∧ w.cell? ⟨b, 1, none⟩ = some y ∧ ∃ cs, w.heap[b]? = some (.cells cs 78 (0, 0)) := by
  rcases h.2 with ⟨_, h2⟩ | ⟨b, c, cur, hv, hB, hh, _, _, _, ht⟩
  · cases h2
  · have c0 := h.cells (g := b) (by rw [hv]; rfl) 0 x rfl
    have c1 := h.cells (g := b) (by rw [hv]; rfl) 1 y rfl
    rw [Addr.add_lit] at c0 c1
    exact ⟨b, c, hv, hB, c0, c1, cur, hh⟩

/-- THE ASSIGNMENT's END, in plain words on worlds. -/
theorem assign_fin {g : Gh} {wp w W2 w3 : World} {mv : Value} {bl : Int} {es : List (List Int)} {bs : List Nat} {sb c wb cw3 nq : Nat} {t : Int} {st : List Int} {aw : Option Addr} {cw : Nat} {ys : List Value} {o : Obj}
    (hI : Inv g wp w mv bl es bs) (hS : St w sb st) (hF : Free g sb bs) (hc : c < st.length) (k1 : Kp g sb (w.setCell ⟨g.fb, 3, none⟩ (.int .i32 (-1))) W2) (k2 : Kp g sb W2 w3)
    (hr : w3.heap[g.rb]? = some (runnerB g (.slice aw 0 cw))) (hs3 : St w3 sb st) (ho : w3.ownsRow g.P1 78 2 (.slice (some ⟨wb, 0, none⟩) 1 cw3) 1 ys) :
    Inv g wp ((((w3.setCell ⟨g.rb, 3, none⟩ (.slice (some ⟨wb, 0, none⟩) 1 cw3)).drewN nq).setCell ⟨sb, c, none⟩ (.int .i32 t)).alloc o).drew mv (-1) es bs ∧
      St ((((w3.setCell ⟨g.rb, 3, none⟩ (.slice (some ⟨wb, 0, none⟩) 1 cw3)).drewN nq).setCell ⟨sb, c, none⟩ (.int .i32 t)).alloc o).drew sb (st.set c t) ∧
      Frm g sb w ((((w3.setCell ⟨g.rb, 3, none⟩ (.slice (some ⟨wb, 0, none⟩) 1 cw3)).drewN nq).setCell ⟨sb, c, none⟩ (.int .i32 t)).alloc o).drew := by
  obtain ⟨o1, o2, o3, o4, o5⟩ := hI.ok
  obtain ⟨f1, f2⟩ := hF
  have hne : sb ≠ g.rb := by omega
  have hne2 : sb ≠ g.fb := by omega
  have hz1 := hI.sz
  have hz2 : g.P1 ≤ W2.heap.size := Nat.le_trans (by simpa [World.setCell] using hz1) k1.size
  have hz3 : g.P1 ≤ w3.heap.size := Nat.le_trans hz2 k2.size
  have e1 : (w3.setCell ⟨g.rb, 3, none⟩ (.slice (some ⟨wb, 0, none⟩) 1 cw3)).heap.size = w3.heap.size := by simp [World.setCell]
  -- what is kept
  have ka : Kp g sb w3 (w3.setCell ⟨g.rb, 3, none⟩ (.slice (some ⟨wb, 0, none⟩) 1 cw3)) := Kp.setCell (.inr rfl) hI.ok
  have kb : Kp g sb (w3.setCell ⟨g.rb, 3, none⟩ (.slice (some ⟨wb, 0, none⟩) 1 cw3)) ((w3.setCell ⟨g.rb, 3, none⟩ (.slice (some ⟨wb, 0, none⟩) 1 cw3)).drewN nq) := Kp.grown (gb_drewN (World.grownBy.refl _ none) nq) (by omega)
  have kc : Kp g sb ((w3.setCell ⟨g.rb, 3, none⟩ (.slice (some ⟨wb, 0, none⟩) 1 cw3)).drewN nq) (((w3.setCell ⟨g.rb, 3, none⟩ (.slice (some ⟨wb, 0, none⟩) 1 cw3)).drewN nq).setCell ⟨sb, c, none⟩ (.int .i32 t)) := Kp.setCell (.inl rfl) hI.ok
  have kd : Kp g sb (((w3.setCell ⟨g.rb, 3, none⟩ (.slice (some ⟨wb, 0, none⟩) 1 cw3)).drewN nq).setCell ⟨sb, c, none⟩ (.int .i32 t)) ((((w3.setCell ⟨g.rb, 3, none⟩ (.slice (some ⟨wb, 0, none⟩) 1 cw3)).drewN nq).setCell ⟨sb, c, none⟩ (.int .i32 t)).alloc o).drew :=
    Kp.grown (gb_drewN (World.grownBy_alloc _ o none) 1) (by have := kc.size; have := kb.size; omega)
  have kk : Kp g sb (w.setCell ⟨g.fb, 3, none⟩ (.int .i32 (-1))) ((((w3.setCell ⟨g.rb, 3, none⟩ (.slice (some ⟨wb, 0, none⟩) 1 cw3)).drewN nq).setCell ⟨sb, c, none⟩ (.int .i32 t)).alloc o).drew := (k1.trans k2).trans (((ka.trans kb).trans kc).trans kd)
  have hb1 := hI.blame (-1)
  have hs1 : St (w.setCell ⟨g.fb, 3, none⟩ (.int .i32 (-1))) sb st := hS.other (Below.heap_setCell _ _ _ _ hne2)
  -- the blocks at the end
  have blk : ∀ k, k < w3.heap.size → k ≠ g.rb → k ≠ sb → ((((w3.setCell ⟨g.rb, 3, none⟩ (.slice (some ⟨wb, 0, none⟩) 1 cw3)).drewN nq).setCell ⟨sb, c, none⟩ (.int .i32 t)).alloc o).drew.heap[k]? = w3.heap[k]? := by
    intro k hk h1 h2
    show ((((w3.setCell ⟨g.rb, 3, none⟩ (.slice (some ⟨wb, 0, none⟩) 1 cw3)).drewN nq).setCell ⟨sb, c, none⟩ (.int .i32 t)).alloc o).heap[k]? = _
    rw [Below.heap_alloc _ _ _ (by simp [World.setCell]; exact hk), Below.heap_setCell _ _ _ _ h2]
    exact Below.heap_setCell _ _ _ _ h1
  have hrb : ((((w3.setCell ⟨g.rb, 3, none⟩ (.slice (some ⟨wb, 0, none⟩) 1 cw3)).drewN nq).setCell ⟨sb, c, none⟩ (.int .i32 t)).alloc o).drew.heap[g.rb]? = some (runnerB g (.slice (some ⟨wb, 0, none⟩) 1 cw3)) := by
    show ((((w3.setCell ⟨g.rb, 3, none⟩ (.slice (some ⟨wb, 0, none⟩) 1 cw3)).drewN nq).setCell ⟨sb, c, none⟩ (.int .i32 t)).alloc o).heap[g.rb]? = _
    rw [Below.heap_alloc _ _ _ (by simp [World.setCell]; exact lt_of_block hr), Below.heap_setCell _ _ _ _ (by simpa using hne.symm)]
    show (w3.setCell ⟨g.rb, 3, none⟩ (.slice (some ⟨wb, 0, none⟩) 1 cw3)).heap[g.rb]? = _
    simpa [runnerB] using heap_setCell_at (k := 3) (v := .slice (some ⟨wb, 0, none⟩) 1 cw3) hr
  have hown : ((((w3.setCell ⟨g.rb, 3, none⟩ (.slice (some ⟨wb, 0, none⟩) 1 cw3)).drewN nq).setCell ⟨sb, c, none⟩ (.int .i32 t)).alloc o).drew.ownsRow g.P1 78 2 (.slice (some ⟨wb, 0, none⟩) 1 cw3) 1 ys := by
    refine owns_same ho fun k cs hk hh => ?_
    rw [blk k (lt_of_block hh) (by omega) ?_]
    · exact hh
    · rintro rfl
      obtain ⟨tail, ht⟩ := hs3
      rw [ht] at hh
      cases hh
  refine ⟨hb1.after ⟨f1, f2⟩ hs1 kk hrb hown, ?_, (Frm.setCell (.inr (.inl rfl)) hI.ok).trans kk.toFrm hz1 (.inl rfl)⟩
  have h1 : St ((w3.setCell ⟨g.rb, 3, none⟩ (.slice (some ⟨wb, 0, none⟩) 1 cw3)).drewN nq) sb st := hs3.other (Below.heap_setCell _ _ _ _ hne)
  have h2 := h1.store c hc t
  refine h2.other ?_
  obtain ⟨tail, ht⟩ := h2
  exact Below.heap_alloc _ _ _ (lt_of_block ht)

set_option maxHeartbeats 1000000 in
set_option maxRecDepth 100000 in
theorem assign_closed (g : Gh) (wp w : World) (bl : Int) (es : List (List Int)) (bs : List Nat) (sb cap sm p q r c d : Nat) (v : Int) (st : List Int) (t : Int) (ht : t = if st.getD d 0 = v then 1 else 0)
    (hI : Inv g wp w (.slice (some ⟨sb, 0, none⟩) 4 cap) bl es bs) (hS : St w sb st) (hF : Free g sb bs) (hl : st.length = 4) (hc : c < 4) (hd : d < 4) (hx : ¬ st.getD d 0 = -1)
    (hA : AsgAt w sm p q r c d v) (hP : (g.P0 ≤ sm ∧ sm < g.P1) ∧ (g.P0 ≤ p ∧ p < g.P1) ∧ (g.P0 ≤ q ∧ q < g.P1) ∧ (g.P0 ≤ r ∧ r < g.P1)) :
    Calls Yba.prog 15 #[.pointer (some ⟨g.rb, 0, none⟩), .pointer (some ⟨sm, 0, none⟩)] w fun e w' => e = .returned (.bool true) ∧
      Inv g wp w' (.slice (some ⟨sb, 0, none⟩) 4 cap) (-1) es bs ∧ St w' sb (st.set c t) ∧ Frm g sb w w' := by
  have HT := hide ht
  have HF := hide hF
  clear ht
  obtain ⟨o1, o2, o3, o4, o5⟩ := hI.ok
  obtain ⟨fs1, fs2⟩ := hF
  obtain ⟨i1, i2, i3, i4, i5, i6, i7, i8, i9⟩ := hI.cells
  obtain ⟨wv, kw, yw, hrn, how⟩ := hI.rn
  obtain ⟨j3, jf3⟩ : w.cell? ⟨g.rb, 3, none⟩ = some wv ∧ w.frozen? ⟨g.rb, 3, none⟩ = false := cell_at (k := 3) hrn rfl
  obtain ⟨a1, a4, a5, a6, a7, a8, ap, aq, ar⟩ := hA.cells
  have hsp : sm ≠ g.fb ∧ sm ≠ g.rb ∧ p ≠ g.fb ∧ q ≠ g.fb ∧ r ≠ g.fb ∧ p ≠ g.rb ∧ q ≠ g.rb ∧ r ≠ g.rb ∧ sb ≠ g.fb ∧ sb ≠ g.rb ∧ g.rb ≠ g.fb := by omega
  obtain ⟨n1, n2, n3, n4, n5, n6, n7, n8, n9, n10, n11⟩ := hsp
  obtain ⟨aw, cw, hw0, hw1⟩ : ∃ aw cw, (∀ W : World, (Instr.slice 39 wv .none (some (.int .i64 0)) .none).run Yba.prog W = .ok (.slice aw 0 cw) W) ∧ w.ownsRow g.P1 78 2 (.slice aw 0 cw) 0 [] := by
    obtain ⟨_, hh⟩ := how
    rcases hh with ⟨rfl, _⟩ | ⟨wb, wc, cur, rfl, hB, hcur, hk, hm, hcs, _⟩
    · exact ⟨none, 0, fun W => by simp [go_sem, Yba.underlying39], World.ownsRow_nil _ _ _ _⟩
    · exact ⟨some ⟨wb, 0, none⟩, wc, fun W => by simp [go_sem, Yba.underlying39], ⟨rfl, .inr ⟨wb, wc, cur, rfl, hB, hcur, Nat.zero_le _, hm, hcs, by simp⟩⟩⟩
  have HI := hide hI
  have HS := hide hS
  have HA := hide hA
  have HO := hide hw1
  have hnf := neq_fn52
  clear hI hS hA hw1 how hrn i4 i7 i8 i9 o1 o2 o3 o4 o5 hP fs1 fs2
  go_enter Yba.func15, Yba.ntmps15
  go_wp2_with fail
  refine wp_loop_rounds 1 ?_
  rw [rounds_succ]
  go_wp2_with fail
  refine wp_loop_rounds 1 ?_
  rw [rounds_succ]
  go_wp2_with fail
  refine wp_loop_rounds 1 ?_
  rw [rounds_succ]
  go_wp2_with fail
  refine wp_loop_rounds 1 ?_
  rw [rounds_succ]
  go_wp2_with fail
  have sxc := (HS.out.cell c (by omega))
  have sxd := (HS.out.cell d (by omega)).1
  have ob := HI.out.ok
  obtain ⟨x1, x2, x3, x4, x5⟩ := ob
  have HI2 := hide (HI.out.blame (-1))
  have B1 : ((w.setCell ⟨g.fb, 3, none⟩ (.int .i32 (-1))).setCell ⟨g.rb, 3, none⟩ (.slice aw 0 cw)).heap[g.fb]? = some (frameB (.slice (some ⟨sb, 0, none⟩) 4 cap) (-1)) := by
    rw [Below.heap_setCell _ _ _ _ (by simp; omega)]; exact HI2.out.fr
  have B2 : ((w.setCell ⟨g.fb, 3, none⟩ (.int .i32 (-1))).setCell ⟨g.rb, 3, none⟩ (.slice aw 0 cw)).heap[g.rb]? = some (runnerB g (.slice aw 0 cw)) := by
    obtain ⟨wv', k', ys', hr', _⟩ := HI2.out.rn
    have := heap_setCell_at (k := 3) (v := .slice aw 0 cw) hr'
    simpa [runnerB] using this
  have B3 : ((w.setCell ⟨g.fb, 3, none⟩ (.int .i32 (-1))).setCell ⟨g.rb, 3, none⟩ (.slice aw 0 cw)).heap[sm]? = w.heap[sm]? := by
    rw [Below.heap_setCell _ _ _ _ (by simp; omega), Below.heap_setCell _ _ _ _ (by simp; omega)]
  have B4 : St ((w.setCell ⟨g.fb, 3, none⟩ (.int .i32 (-1))).setCell ⟨g.rb, 3, none⟩ (.slice aw 0 cw)) sb st := HS.out.other (by
    rw [Below.heap_setCell _ _ _ _ (by simp; omega), Below.heap_setCell _ _ _ _ (by simp; omega)])
  have m1 := (cell_at (k := 1) B1 rfl).1
  refine (eq_closed g.fb sb cap d (st.getD d 0) v true ⟨p, 0, none⟩ ⟨q, 0, none⟩ ⟨r, 0, none⟩ _ hd hx (beside (beside ap (.inl n3)) (.inl n6)) (beside (beside aq (.inl n4)) (.inl n7)) (beside (beside ar (.inl n5)) (.inl n8)) m1 (beside (beside sxd (.inl n9)) (.inl n10))).mono ?_
  rintro e w' ⟨rfl, rfl⟩
  have HO2 : Hid (((w.setCell ⟨g.fb, 3, none⟩ (.int .i32 (-1))).setCell ⟨g.rb, 3, none⟩ (.slice aw 0 cw)).ownsRow g.P1 78 2 (.slice aw 0 cw) 0 []) :=
    ownsRow_setCell_below (ownsRow_setCell_below HO.out (by simp; omega) _) (by simp; omega) _
  have KP : Hid (Kp g sb (w.setCell ⟨g.fb, 3, none⟩ (.int .i32 (-1))) ((w.setCell ⟨g.fb, 3, none⟩ (.int .i32 (-1))).setCell ⟨g.rb, 3, none⟩ (.slice aw 0 cw))) := Kp.setCell (.inr rfl) HI.out.ok
  clear sxc sxd i1 i2 i3 i5 i6 j3 jf3 a1 a4 a5 a6 a7 a8 ap aq ar hw0 hx m1 x1 x2 x3 x4 x5
  have HB := hide (And.intro B1 (And.intro B2 (And.intro (B3.trans HA.out.s) B4)))
  obtain ⟨m3, m4⟩ := cell_at (k := 3) HB.out.2.1 rfl
  obtain ⟨m0, _⟩ := cell_at (k := 0) HB.out.2.1 rfl
  have hP1 : g.P1 ≤ ((w.setCell ⟨g.fb, 3, none⟩ (.int .i32 (-1))).setCell ⟨g.rb, 3, none⟩ (.slice aw 0 cw)).heap.size := by have := HI.out.sz; simpa [World.setCell] using this
  clear B1 B2 B3 B4
  generalize (w.setCell ⟨g.fb, 3, none⟩ (.int .i32 (-1))).setCell ⟨g.rb, 3, none⟩ (.slice aw 0 cw) = W2 at *
  obtain ⟨z0, hi, hz0, hz1, hz2⟩ := info_parts Yba.info78
  by_cases hv : st.getD d 0 = v
  · have hs : says (st.getD d 0) v true = 2 := by rw [hv]; simp [says]
    obtain rfl : t = 1 := by rw [HT.out, if_pos hv]
    clear hv
    rw [hs]
    go_wp2_with (at_builtin; refine wpList_append_own_at _ rfl _ _ 39 rfl g.P1 78 z0 (.agg #[.int .i64 0, .int .i32 0]) 2 16 Yba.underlying39 hi hz0 hz1 hz2 rfl (by decide) (.slice aw 0 cw) 0 [] rfl (HO2.out.alloc _) ⟨W2.heap.size, 0, none⟩ 1 1 [.int .i64 c, .int .i32 1] rfl rfl (two_at W2 _ _ _) (by simp [Value.oneCell']) (by decide) (by decide) (by simp; omega) ?_)
    intro v3 w3 hown3 hg3 y1 y2
    clear y1 y2 m3 m4
    obtain ⟨wb, cw3, hv3, hwb, k0, k1, cs3, hcs3⟩ := owned_one hown3
    have K3 : Kp g sb W2 w3 := (Kp.grown (World.grownBy_alloc W2 _ none) hP1).trans (Kp.append (HO2.out.alloc _) hg3 (by simp; omega))
    have sz3 : W2.heap.size ≤ w3.heap.size := K3.size
    have F1 := app_kept HO2.out hg3 HB.out.1 (by decide)
    have F2 := app_kept HO2.out hg3 HB.out.2.1 (by decide)
    have F3 := app_kept HO2.out hg3 HB.out.2.2.1 (by decide)
    have F4 : St w3 sb st := by
      obtain ⟨tail, ht⟩ := HB.out.2.2.2
      exact ⟨tail, app_kept HO2.out hg3 ht (by decide)⟩
    have f1 := (cell_at (k := 1) F1 rfl).1
    have f2 := (cell_at (k := 2) F1 rfl).1
    obtain ⟨r3, rf3⟩ := cell_at (k := 3) F2 rfl
    have q5 := (cell_at (k := 5) F3 rfl).1
    have q6 := (cell_at (k := 6) F3 rfl).1
    obtain ⟨sc, sf⟩ := F4.cell c (by omega)
    have HK3 := hide K3
    have HO3 := hide hown3
    have H4 := hide (And.intro F1 (And.intro F2 F4))
    have n12 : wb ≠ g.rb := by have := HI.out.ok; obtain ⟨x1, x2, x3, x4, x5⟩ := this; omega
    have n13 : sb ≠ wb := by
      rintro rfl
      obtain ⟨tail, ht⟩ := F4
      rw [ht] at hcs3
      cases hcs3
    have HCS := hide hcs3
    have l1 : g.fb < w3.heap.size := lt_of_block F1
    have l2 : sb < w3.heap.size := by obtain ⟨tail, ht⟩ := F4; exact lt_of_block ht
    clear K3 hown3 hg3 F1 F2 F3 F4 m0 hcs3
    rw [hv3]
    go_wp2_with fail
    go_quiet ((go_at_call 20; exact Calls.quiet_of_same (advance_nil _)))
    go_wp2_with fail
    refine wp_loop_rounds 2 ?_
    rw [rounds_succ]
    go_wp2_with fail
    have l3 : (c : Int) < 4 := by omega
    go_region
    go_wp2_with fail
    rw [rounds_succ]
    go_wp2_with fail
    go_ret
    exact ⟨rfl, assign_fin HI.out HS.out HF.out (by omega) KP.out HK3.out H4.out.2.1 H4.out.2.2 (hv3 ▸ HO3.out)⟩
  · have hs : says (st.getD d 0) v true = 0 := by simp [says]; simpa using hv
    obtain rfl : t = 0 := by rw [HT.out, if_neg hv]
    clear hv
    rw [hs]
    go_wp2_with (at_builtin; refine wpList_append_own_at _ rfl _ _ 39 rfl g.P1 78 z0 (.agg #[.int .i64 0, .int .i32 0]) 2 16 Yba.underlying39 hi hz0 hz1 hz2 rfl (by decide) (.slice aw 0 cw) 0 [] rfl (HO2.out.alloc _) ⟨W2.heap.size, 0, none⟩ 1 1 [.int .i64 c, .int .i32 0] rfl rfl (two_at W2 _ _ _) (by simp [Value.oneCell']) (by decide) (by decide) (by simp; omega) ?_)
    intro v3 w3 hown3 hg3 y1 y2
    clear y1 y2 m3 m4
    obtain ⟨wb, cw3, hv3, hwb, k0, k1, cs3, hcs3⟩ := owned_one hown3
    have K3 : Kp g sb W2 w3 := (Kp.grown (World.grownBy_alloc W2 _ none) hP1).trans (Kp.append (HO2.out.alloc _) hg3 (by simp; omega))
    have sz3 : W2.heap.size ≤ w3.heap.size := K3.size
    have F1 := app_kept HO2.out hg3 HB.out.1 (by decide)
    have F2 := app_kept HO2.out hg3 HB.out.2.1 (by decide)
    have F3 := app_kept HO2.out hg3 HB.out.2.2.1 (by decide)
    have F4 : St w3 sb st := by
      obtain ⟨tail, ht⟩ := HB.out.2.2.2
      exact ⟨tail, app_kept HO2.out hg3 ht (by decide)⟩
    have f1 := (cell_at (k := 1) F1 rfl).1
    have f2 := (cell_at (k := 2) F1 rfl).1
    obtain ⟨r3, rf3⟩ := cell_at (k := 3) F2 rfl
    have q5 := (cell_at (k := 5) F3 rfl).1
    have q6 := (cell_at (k := 6) F3 rfl).1
    obtain ⟨sc, sf⟩ := F4.cell c (by omega)
    have HK3 := hide K3
    have HO3 := hide hown3
    have H4 := hide (And.intro F1 (And.intro F2 F4))
    have n12 : wb ≠ g.rb := by have := HI.out.ok; obtain ⟨x1, x2, x3, x4, x5⟩ := this; omega
    have n13 : sb ≠ wb := by
      rintro rfl
      obtain ⟨tail, ht⟩ := F4
      rw [ht] at hcs3
      cases hcs3
    have HCS := hide hcs3
    have l1 : g.fb < w3.heap.size := lt_of_block F1
    have l2 : sb < w3.heap.size := by obtain ⟨tail, ht⟩ := F4; exact lt_of_block ht
    clear K3 hown3 hg3 F1 F2 F3 F4 m0 hcs3
    rw [hv3]
    go_wp2_with fail
    go_quiet ((go_at_call 20; exact Calls.quiet_of_same (advance_nil _)))
    go_wp2_with fail
    refine wp_loop_rounds 2 ?_
    rw [rounds_succ]
    go_wp2_with fail
    have l3 : (c : Int) < 4 := by omega
    go_region
    go_wp2_with fail
    rw [rounds_succ]
    go_wp2_with fail
    go_ret
    exact ⟨rfl, assign_fin HI.out HS.out HF.out (by omega) KP.out HK3.out H4.out.2.1 H4.out.2.2 (hv3 ▸ HO3.out)⟩
set_option maxHeartbeats 1000000 in
set_option maxRecDepth 100000 in
theorem assign_open (g : Gh) (wp w : World) (bl : Int) (es : List (List Int)) (bs : List Nat) (sb cap sm p q r c d : Nat) (v : Int) (st : List Int)
    (hI : Inv g wp w (.slice (some ⟨sb, 0, none⟩) 4 cap) bl es bs) (hS : St w sb st) (hF : Free g sb bs) (hl : st.length = 4) (hc : c < 4) (hd : d < 4) (hx : st.getD d 0 = -1)
    (hA : AsgAt w sm p q r c d v) (hP : (g.P0 ≤ sm ∧ sm < g.P1) ∧ (g.P0 ≤ p ∧ p < g.P1) ∧ (g.P0 ≤ q ∧ q < g.P1) ∧ (g.P0 ≤ r ∧ r < g.P1)) :
    Calls Yba.prog 15 #[.pointer (some ⟨g.rb, 0, none⟩), .pointer (some ⟨sm, 0, none⟩)] w fun e w' => e = .returned (.bool false) ∧
      Inv g wp w' (.slice (some ⟨sb, 0, none⟩) 4 cap) d es bs ∧ St w' sb st ∧ Frm g sb w w' := by
  have HF := hide hF
  have HX := hide hx
  clear hx
  obtain ⟨o1, o2, o3, o4, o5⟩ := hI.ok
  obtain ⟨fs1, fs2⟩ := hF
  obtain ⟨i1, i2, i3, i4, i5, i6, i7, i8, i9⟩ := hI.cells
  obtain ⟨wv, kw, yw, hrn, how⟩ := hI.rn
  obtain ⟨j3, jf3⟩ : w.cell? ⟨g.rb, 3, none⟩ = some wv ∧ w.frozen? ⟨g.rb, 3, none⟩ = false := cell_at (k := 3) hrn rfl
  obtain ⟨a1, a4, a5, a6, a7, a8, ap, aq, ar⟩ := hA.cells
  have hsp : sm ≠ g.fb ∧ sm ≠ g.rb ∧ p ≠ g.fb ∧ q ≠ g.fb ∧ r ≠ g.fb ∧ p ≠ g.rb ∧ q ≠ g.rb ∧ r ≠ g.rb ∧ sb ≠ g.fb ∧ sb ≠ g.rb ∧ g.rb ≠ g.fb := by omega
  obtain ⟨n1, n2, n3, n4, n5, n6, n7, n8, n9, n10, n11⟩ := hsp
  obtain ⟨aw, cw, hw0, hw1⟩ : ∃ aw cw, (∀ W : World, (Instr.slice 39 wv .none (some (.int .i64 0)) .none).run Yba.prog W = .ok (.slice aw 0 cw) W) ∧ w.ownsRow g.P1 78 2 (.slice aw 0 cw) 0 [] := by
    obtain ⟨_, hh⟩ := how
    rcases hh with ⟨rfl, _⟩ | ⟨wb, wc, cur, rfl, hB, hcur, hk, hm, hcs, _⟩
    · exact ⟨none, 0, fun W => by simp [go_sem, Yba.underlying39], World.ownsRow_nil _ _ _ _⟩
    · exact ⟨some ⟨wb, 0, none⟩, wc, fun W => by simp [go_sem, Yba.underlying39], ⟨rfl, .inr ⟨wb, wc, cur, rfl, hB, hcur, Nat.zero_le _, hm, hcs, by simp⟩⟩⟩
  have HI := hide hI
  have HS := hide hS
  have HA := hide hA
  have HO := hide hw1
  have hnf := neq_fn52
  clear hI hS hA hw1 how hrn i4 i7 i8 i9 o1 o2 o3 o4 o5 hP fs1 fs2
  go_enter Yba.func15, Yba.ntmps15
  go_wp2_with fail
  refine wp_loop_rounds 1 ?_
  rw [rounds_succ]
  go_wp2_with fail
  refine wp_loop_rounds 1 ?_
  rw [rounds_succ]
  go_wp2_with fail
  refine wp_loop_rounds 1 ?_
  rw [rounds_succ]
  go_wp2_with fail
  refine wp_loop_rounds 1 ?_
  rw [rounds_succ]
  go_wp2_with fail
  have sxc := (HS.out.cell c (by omega))
  have sxd := (HS.out.cell d (by omega)).1
  have ob := HI.out.ok
  obtain ⟨x1, x2, x3, x4, x5⟩ := ob
  have HI2 := hide (HI.out.blame (-1))
  have B1 : ((w.setCell ⟨g.fb, 3, none⟩ (.int .i32 (-1))).setCell ⟨g.rb, 3, none⟩ (.slice aw 0 cw)).heap[g.fb]? = some (frameB (.slice (some ⟨sb, 0, none⟩) 4 cap) (-1)) := by
    rw [Below.heap_setCell _ _ _ _ (by simp; omega)]; exact HI2.out.fr
  have B2 : ((w.setCell ⟨g.fb, 3, none⟩ (.int .i32 (-1))).setCell ⟨g.rb, 3, none⟩ (.slice aw 0 cw)).heap[g.rb]? = some (runnerB g (.slice aw 0 cw)) := by
    obtain ⟨wv', k', ys', hr', _⟩ := HI2.out.rn
    have := heap_setCell_at (k := 3) (v := .slice aw 0 cw) hr'
    simpa [runnerB] using this
  have B3 : ((w.setCell ⟨g.fb, 3, none⟩ (.int .i32 (-1))).setCell ⟨g.rb, 3, none⟩ (.slice aw 0 cw)).heap[sm]? = w.heap[sm]? := by
    rw [Below.heap_setCell _ _ _ _ (by simp; omega), Below.heap_setCell _ _ _ _ (by simp; omega)]
  have B4 : St ((w.setCell ⟨g.fb, 3, none⟩ (.int .i32 (-1))).setCell ⟨g.rb, 3, none⟩ (.slice aw 0 cw)) sb st := HS.out.other (by
    rw [Below.heap_setCell _ _ _ _ (by simp; omega), Below.heap_setCell _ _ _ _ (by simp; omega)])
  have m1 := (cell_at (k := 1) B1 rfl).1
  obtain ⟨m3, mf3⟩ := cell_at (k := 3) B1 rfl
  have sxd' : w.cell? ⟨sb, d, none⟩ = some (.int .i32 (-1)) := by rw [sxd, HX.out]
  refine (eq_open g.fb sb cap d v true ⟨p, 0, none⟩ ⟨q, 0, none⟩ ⟨r, 0, none⟩ _ hd (beside (beside ap (.inl n3)) (.inl n6)) (beside (beside aq (.inl n4)) (.inl n7)) (beside (beside ar (.inl n5)) (.inl n8)) m1 (beside (beside sxd' (.inl n9)) (.inl n10)) m3 mf3).mono ?_
  rintro e w' ⟨rfl, rfl⟩
  have k1 : Kp g sb (w.setCell ⟨g.fb, 3, none⟩ (.int .i32 (-1))) ((w.setCell ⟨g.fb, 3, none⟩ (.int .i32 (-1))).setCell ⟨g.rb, 3, none⟩ (.slice aw 0 cw)) := Kp.setCell (.inr rfl) HI.out.ok
  have HO2 : ((w.setCell ⟨g.fb, 3, none⟩ (.int .i32 (-1))).setCell ⟨g.rb, 3, none⟩ (.slice aw 0 cw)).ownsRow g.P1 78 2 (.slice aw 0 cw) 0 [] :=
    ownsRow_setCell_below (ownsRow_setCell_below HO.out (by simp; omega) _) (by simp; omega) _
  have J1 := hide ((HI2.out.after HF.out (HS.out.other (Below.heap_setCell _ _ _ _ n9)) k1 B2 HO2).blame d)
  have J2 : Hid (St (((w.setCell ⟨g.fb, 3, none⟩ (.int .i32 (-1))).setCell ⟨g.rb, 3, none⟩ (.slice aw 0 cw)).setCell ⟨g.fb, 3, none⟩ (.int .i32 d)) sb st) := B4.other (Below.heap_setCell _ _ _ _ n9)
  have J3 : Hid (Frm g sb w (((w.setCell ⟨g.fb, 3, none⟩ (.int .i32 (-1))).setCell ⟨g.rb, 3, none⟩ (.slice aw 0 cw)).setCell ⟨g.fb, 3, none⟩ (.int .i32 d))) :=
    ((Frm.setCell (.inr (.inl rfl)) HI.out.ok).trans k1.toFrm HI.out.sz (.inl rfl)).trans (Frm.setCell (.inr (.inl rfl)) HI.out.ok) HI.out.sz (.inl rfl)
  clear sxc sxd sxd' i1 i2 i3 i5 i6 j3 jf3 a1 a4 a5 a6 a7 a8 ap aq ar hw0 m1 x1 x2 x3 x4 x5 B1 B2 B3 B4 m3 mf3 k1 HO2
  go_wp2_with fail
  go_ret
  exact ⟨rfl, J1.out, J2.out, J3.out⟩
end Go.Proofs.Ybulkbvqe
