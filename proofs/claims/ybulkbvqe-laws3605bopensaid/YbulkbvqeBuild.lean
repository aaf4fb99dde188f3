/-
  WALKS for seat b3605a: the program is built.
-/
import Derived.Test.YbulkbvqeStm
import Derived.Test.YbulkbvqeEmit
namespace Go.Proofs.Ybulkbvqe
open Go.ChangeShapes Go.WideShapes Go.ChangeAt Go.RowKit
set_option linter.unusedVariables false

theorem const_mk (v : Int) (w : World) : Calls Yba.prog 17 #[.int .i32 v] w fun e w' => e = .returned (.func (.func 21) #[] #[.pointer (some ⟨w.heap.size, 0, none⟩)]) ∧ w' = w.alloc (.cells #[.int .i32 v] 21) := by
  go_enter Yba.func17, Yba.ntmps17
  go_wp2
  go_ret
  exact ⟨rfl, rfl⟩
theorem copy_mk (d : Nat) (w : World) : Calls Yba.prog 18 #[.int .i64 d] w fun e w' => e = .returned (.func (.func 22) #[] #[.pointer (some ⟨w.heap.size, 0, none⟩)]) ∧ w' = w.alloc (.cells #[.int .i64 d] 3) := by
  go_enter Yba.func18, Yba.ntmps18
  go_wp2
  go_ret
  exact ⟨rfl, rfl⟩
theorem eq_mk (c : Nat) (v : Int) (want : Bool) (w : World) : Calls Yba.prog 19 #[.int .i64 c, .int .i32 v, .bool want] w fun e w' =>
    e = .returned (.func (.func 24) #[] #[.pointer (some ⟨w.heap.size, 0, none⟩), .pointer (some ⟨w.heap.size + 1, 0, none⟩), .pointer (some ⟨w.heap.size + 2, 0, none⟩)]) ∧
      w' = ((w.alloc (.cells #[.int .i64 c] 3)).alloc (.cells #[.int .i32 v] 21)).alloc (.cells #[.bool want] 4) := by
  go_enter Yba.func19, Yba.ntmps19
  go_wp2
  go_ret
  exact ⟨rfl, rfl⟩

/-- The operations in memory. -/
def OpsAt (w : World) (ao : Option Addr) (n : Nat) (ops : Nat → O5) : Prop :=
  n = 0 ∨ ∃ b o, ao = some ⟨b, o, none⟩ ∧ b < w.heap.size ∧ ∀ j, j < n → w.cell? ⟨b, o + j * 5, none⟩ = some (.int .u8 (ops j).k) ∧ w.cell? ⟨b, o + j * 5 + 1, none⟩ = some (.int .u8 (ops j).c) ∧ w.cell? ⟨b, o + j * 5 + 2, none⟩ = some (.int .u8 (ops j).d) ∧
    w.cell? ⟨b, o + j * 5 + 3, none⟩ = some (.int .u8 (ops j).v) ∧ w.cell? ⟨b, o + j * 5 + 4, none⟩ = some (.int .u8 (ops j).l)

theorem OpsAt.below {w w' : World} {ao : Option Addr} {n : Nat} {ops : Nat → O5} (h : OpsAt w ao n ops) (hb : Below w.heap.size w w') : OpsAt w' ao n ops := by
  rcases h with h | ⟨b, o, h1, h2, h3⟩
  · exact .inl h
  · refine .inr ⟨b, o, h1, Nat.lt_of_lt_of_le h2 hb.size, fun j hj => ?_⟩
    obtain ⟨k0, k1, k2, k3, k4⟩ := h3 j hj
    exact ⟨(hb.cell h2).trans k0, (hb.cell h2).trans k1, (hb.cell h2).trans k2, (hb.cell h2).trans k3, (hb.cell h2).trans k4⟩

/-- WHAT IS BUILT SO FAR: the row v of the statements ys for ops[lo:i]. -/
structure Bld (w wr : World) (ops : Nat → O5) (D lo hi i : Nat) (v : Value) (ys : List Value) : Prop where
  own : wr.ownsRow w.heap.size 46 1 v ys.length ys
  bel : Below w.heap.size w wr
  len : ys.length + lo ≤ i
  stab : ∀ w' : World, (∀ k, w.heap.size ≤ k → k < wr.heap.size → some k ≠ v.ownBlock → w'.heap[k]? = wr.heap[k]?) → Seg (fun j u => Stmt w.heap.size wr.heap.size w' ops D hi j u) ops hi ys lo i

theorem Bld.start (w : World) (ops : Nat → O5) (D lo hi : Nat) : Bld w w ops D lo hi lo (.slice none 0 0) [] := ⟨World.ownsRow_nil _ _ _ _, Below.refl _ _, by simp, fun _ _ => rfl⟩

theorem nx_gt (ops : Nat → O5) (hi i : Nat) : i < nx ops hi i := by unfold nx; split <;> omega
theorem nx_le (ops : Nat → O5) {hi i : Nat} (h : i < hi) : nx ops hi i ≤ hi := by
  unfold nx
  split
  · have := ln_le (ops i) i hi; omega
  · omega

theorem Stmt.same' {A Z A' Z' : Nat} {w : World} {ops : Nat → O5} {D hi i : Nat} {y : Value} (h : Stmt A Z w ops D hi i y) (hAZ : A' ≤ A ∧ Z ≤ Z') : Stmt A' Z' w ops D hi i y := Stmt.same (fun _ _ _ => rfl) hAZ.1 hAZ.2 D hi i y h

theorem nx_plain' {ops : Nat → O5} {hi i : Nat} (hk : ¬ kd (ops i) = 4) : nx ops hi i = i + 1 := by unfold nx; rw [if_neg hk]
theorem nx_if' {ops : Nat → O5} {hi i : Nat} (hk : kd (ops i) = 4) : nx ops hi i = i + 1 + ln (ops i) i hi := by unfold nx; rw [if_pos hk]

/-- One statement more. -/
theorem Bld.add {w wr W w' : World} {ops : Nat → O5} {D lo hi i g cap : Nat} {v y : Value} {ys : List Value} (h : Bld w wr ops D lo hi i v ys) (hW : wr.grownBy W none) (hi' : i < hi)
    (hy : ∀ w'' : World, (∀ k, wr.heap.size ≤ k → k < W.heap.size → w''.heap[k]? = W.heap[k]?) → Stmt wr.heap.size W.heap.size w'' ops D hi i y)
    (hown : w'.ownsRow w.heap.size 46 1 (.slice (some ⟨g, 0, none⟩) (ys.length + 1) cap) (ys.length + 1) (ys ++ [y])) (hg : W.grownBy w' v.ownBlock) (hat : v.ownBlock = some g ∨ g = W.heap.size) : Bld w w' ops D lo hi (nx ops hi i) (.slice (some ⟨g, 0, none⟩) (ys.length + 1) cap) (ys ++ [y]) := by
  have hlt : ∀ k, v.ownBlock = some k → w.heap.size ≤ k ∧ k < wr.heap.size := fun k hk => by
    rcases h.own.2 with ⟨rfl, _⟩ | ⟨b, c, cur, rfl, hb, hh, _⟩
    · cases hk
    · simp [Value.ownBlock] at hk
      subst hk
      exact ⟨hb, lt_of_block hh⟩
  have s1 := h.bel.size
  have s2 := hW.size
  have s3 := hg.size
  refine ⟨by simpa using hown, ?_, ?_, ?_⟩
  · refine (h.bel.grown hW s1 (fun k hk => by cases hk)).grown hg (by omega) (fun k hk => (hlt k hk).1)
  · have := h.len; have := nx_gt ops hi i; simp; omega
  · intro w'' hw
    have hnb : ∀ k, some k ≠ v.ownBlock → k < W.heap.size → some k ≠ (Value.slice (some ⟨g, 0, none⟩) (ys.length + 1) cap).ownBlock := fun k hk hkW e => by
      simp [Value.ownBlock] at e
      subst e
      rcases hat with hat | hat
      · exact hk hat.symm
      · omega
    have e1 := h.stab w'' (fun k h1 h2 h3 => by rw [hw k h1 (by omega) (hnb k h3 (by omega)), hg.block k (by omega) h3, hW.block k h2 (by simp)])
    have e2 := hy w'' (fun k h1 h2 => by
      have h3 : some k ≠ v.ownBlock := fun e => by have := (hlt k e.symm).2; omega
      rw [hw k (by omega) (by omega) (hnb k h3 h2), hg.block k h2 h3])
    exact Seg.snoc (e1.carried fun j u hu => hu.same' ⟨Nat.le_refl _, by omega⟩) hi' (e2.same' ⟨s1, s3⟩)

theorem Yba.info46 : (Yba.prog.info? 46).map (fun i => (i.zero, i.size, i.bytes)) = some (some .nilIface, 1, 16) := by kernel_rfl

/-- THE BUILDER's CONTRACT for blocks of at most D operations. -/
def BuildOK (ops : Nat → O5) (D : Nat) : Prop :=
  ∀ (w : World) (ao : Option Addr) (n c lo hi : Nat), OpsAt w ao n ops → n ≤ 600 → lo ≤ hi → hi ≤ n → hi - lo ≤ D →
    Calls Yba.prog 12 #[.slice ao n c, .int .i64 lo, .int .i64 hi] w fun e w' => ∃ v ys, e = .returned v ∧ Slc w.heap.size w'.heap.size w' v ys ∧ Seg (fun j u => Stmt w.heap.size w'.heap.size w' ops D hi j u) ops hi ys lo hi ∧ Below w.heap.size w w'

/-- The row that is built is a slice of statements. -/
theorem Bld.done {w wr : World} {ops : Nat → O5} {D lo hi : Nat} {v : Value} {ys : List Value} (h : Bld w wr ops D lo hi hi v ys) : Slc w.heap.size wr.heap.size wr v ys ∧ Seg (fun j u => Stmt w.heap.size wr.heap.size wr ops D hi j u) ops hi ys lo hi ∧ Below w.heap.size w wr := by
  refine ⟨?_, h.stab wr (fun _ _ _ _ => rfl), h.bel⟩
  rcases h.own.2 with ⟨rfl, h0⟩ | ⟨b, c, cur, rfl, hb, hh, h1, h2, h3, h4⟩
  · have e : ys = [] := List.length_eq_zero_iff.1 h0
    subst e
    exact ⟨none, 0, rfl, Nat.le_refl _, Nat.zero_le _, .inl rfl⟩
  · refine ⟨some ⟨b, 0, none⟩, c, rfl, h1, h2, .inr ⟨b, 0, rfl, ⟨hb, lt_of_block hh⟩, fun j hj => ?_⟩⟩
    simp only [World.cell?, hh]
    have e : (cur.toList.take (ys.length * 1))[j]? = some (ys.getD j .nilIface) := by
      rw [h4]
      simp [List.getD, hj]
    rw [List.getElem?_take] at e
    simp at e
    simpa using e.2

/-- New blocks, one behind the other. -/
def allocs (w : World) : List Obj → World
  | [] => w
  | o :: os => allocs (w.alloc o) os
theorem allocs_size : ∀ (os : List Obj) (w : World), (allocs w os).heap.size = w.heap.size + os.length
  | [], w => rfl
  | o :: os, w => by rw [allocs, allocs_size os]; simp; omega
theorem allocs_grown : ∀ (os : List Obj) (w : World), w.grownBy (allocs w os) none
  | [], w => World.grownBy.refl w none
  | o :: os, w => (World.grownBy_alloc w o none).trans (allocs_grown os (w.alloc o))
theorem allocs_get : ∀ (os : List Obj) (w : World) (j : Nat), j < os.length → (allocs w os).heap[w.heap.size + j]? = os[j]?
  | o :: os, w, 0, _ => by
    rw [allocs, (allocs_grown os (w.alloc o)).block _ (by simp) (by simp)]
    exact heap_alloc_new w o
  | o :: os, w, j + 1, h => by
    have e := allocs_get os (w.alloc o) j (by simpa using h)
    rw [allocs]
    simpa [Nat.add_assoc, Nat.add_comm 1 j] using e

/-- A world that agrees with new blocks. -/
def Agree (wr w'' : World) (os : List Obj) : Prop := ∀ k, wr.heap.size ≤ k → k < (allocs wr os).heap.size → w''.heap[k]? = (allocs wr os).heap[k]?
theorem Agree.at {wr w'' : World} {os : List Obj} (h : Agree wr w'' os) (j : Nat) {o : Obj} (hj : os[j]? = some o) : (wr.heap.size ≤ wr.heap.size + j ∧ wr.heap.size + j < (allocs wr os).heap.size) ∧ w''.heap[wr.heap.size + j]? = some o := by
  have hlt : j < os.length := (List.getElem?_eq_some_iff.1 hj).1
  have hz := allocs_size os wr
  exact ⟨⟨by omega, by omega⟩, by rw [h _ (by omega) (by omega), allocs_get os wr j hlt, hj]⟩

theorem Bld.addL {w wr w' : World} {ops : Nat → O5} {D lo hi i g cap : Nat} {v y : Value} {ys : List Value} {os : List Obj} (h : Bld w wr ops D lo hi i v ys) (hi' : i < hi)
    (hown : w'.ownsRow w.heap.size 46 1 (.slice (some ⟨g, 0, none⟩) (ys.length + 1) cap) (ys.length + 1) (ys ++ [y])) (hg : (allocs wr os).grownBy w' v.ownBlock) (hat : v.ownBlock = some g ∨ g = wr.heap.size + os.length)
    (hy : ∀ w'' : World, Agree wr w'' os → Stmt wr.heap.size (allocs wr os).heap.size w'' ops D hi i y) : Hid (Bld w w' ops D lo hi (nx ops hi i) (.slice (some ⟨g, 0, none⟩) (ys.length + 1) cap) (ys ++ [y])) :=
  h.add (allocs_grown os wr) hi' hy hown hg (by rw [allocs_size]; exact hat)

section
variable {wr w'' : World} {o33 R : Obj} {ops : Nat → O5} {D hi i : Nat}

theorem mk_set (hk : kd (ops i) = 0) {os : List Obj} (he : os = [o33, .cells #[.int .i32 (vl (ops i))] 21, .cells #[.int .i64 (cA (ops i)), .func (.func 21) #[] #[.pointer (some ⟨wr.heap.size + 1, 0, none⟩)]] 68, R])
    (h : Agree wr w'' os) : Stmt wr.heap.size (allocs wr os).heap.size w'' ops (D + 1) hi i (.iface 62 (.pointer (some ⟨wr.heap.size + 2, 0, none⟩))) := by
  subst he
  obtain ⟨h1, h2⟩ := h.at 1 rfl
  obtain ⟨h3, h4⟩ := h.at 2 rfl
  exact .inl ⟨hk, _, _, ⟨h3, h1⟩, rfl, h4, h2⟩
theorem mk_copy (hk : kd (ops i) = 1) {os : List Obj} (he : os = [o33, .cells #[.int .i64 (cB (ops i))] 3, .cells #[.int .i64 (cA (ops i)), .func (.func 22) #[] #[.pointer (some ⟨wr.heap.size + 1, 0, none⟩)]] 68, R])
    (h : Agree wr w'' os) : Stmt wr.heap.size (allocs wr os).heap.size w'' ops (D + 1) hi i (.iface 62 (.pointer (some ⟨wr.heap.size + 2, 0, none⟩))) := by
  subst he
  obtain ⟨h1, h2⟩ := h.at 1 rfl
  obtain ⟨h3, h4⟩ := h.at 2 rfl
  exact .inr (.inl ⟨hk, _, _, ⟨h3, h1⟩, rfl, h4, h2⟩)
theorem mk_req {want : Bool} (hk : (kd (ops i) = 2 ∧ want = true) ∨ (kd (ops i) = 5 ∧ want = false)) {os : List Obj} (he : os = [o33, .cells #[.int .i64 (cA (ops i))] 3, .cells #[.int .i32 (vl (ops i))] 21, .cells #[.bool want] 4,
      .cells #[.func (.func 24) #[] #[.pointer (some ⟨wr.heap.size + 1, 0, none⟩), .pointer (some ⟨wr.heap.size + 2, 0, none⟩), .pointer (some ⟨wr.heap.size + 3, 0, none⟩)]] 54, R])
    (h : Agree wr w'' os) : Stmt wr.heap.size (allocs wr os).heap.size w'' ops (D + 1) hi i (.iface 47 (.pointer (some ⟨wr.heap.size + 4, 0, none⟩))) := by
  subst he
  obtain ⟨h1, h2⟩ := h.at 1 rfl
  obtain ⟨h3, h4⟩ := h.at 2 rfl
  obtain ⟨h5, h6⟩ := h.at 3 rfl
  obtain ⟨h7, h8⟩ := h.at 4 rfl
  have e : Req wr.heap.size _ w'' (.iface 47 (.pointer (some ⟨wr.heap.size + 4, 0, none⟩))) (cA (ops i)) (vl (ops i)) want := ⟨_, _, h7, rfl, h8, _, _, _, ⟨h1, h3, h5⟩, rfl, h2, h4, h6⟩
  rcases hk with ⟨hk, rfl⟩ | ⟨hk, rfl⟩
  · exact .inr (.inr (.inl ⟨hk, e⟩))
  · exact .inr (.inr (.inr (.inr (.inl ⟨hk, e⟩))))
theorem mk_asg (hk : kd (ops i) = 3) {os : List Obj} (he : os = [o33, .cells #[.int .i64 (cB (ops i))] 3, .cells #[.int .i32 (vl (ops i))] 21, .cells #[.bool true] 4,
      .cells #[.bool true, .int .i64 (cA (ops i)), .int .i64 1, .slice none 0 0, .slice none 0 0, .slice none 0 0, .slice none 0 0, .slice none 0 0, .func (.func 24) #[] #[.pointer (some ⟨wr.heap.size + 1, 0, none⟩), .pointer (some ⟨wr.heap.size + 2, 0, none⟩), .pointer (some ⟨wr.heap.size + 3, 0, none⟩)]] 76, R])
    (h : Agree wr w'' os) : Stmt wr.heap.size (allocs wr os).heap.size w'' ops (D + 1) hi i (.iface 60 (.pointer (some ⟨wr.heap.size + 4, 0, none⟩))) := by
  subst he
  obtain ⟨h1, h2⟩ := h.at 1 rfl
  obtain ⟨h3, h4⟩ := h.at 2 rfl
  obtain ⟨h5, h6⟩ := h.at 3 rfl
  obtain ⟨h7, h8⟩ := h.at 4 rfl
  exact .inr (.inr (.inr (.inl ⟨hk, _, _, h7, rfl, h8, _, _, _, ⟨h1, h3, h5⟩, rfl, h2, h4, h6⟩)))
end

theorem mk_if {wr w1 w2 w'' : World} {R : Obj} {ops : Nat → O5} {D hi i : Nat} {tv : Value} {ys : List Value} (hk : kd (ops i) = 4) (h01 : wr.heap.size ≤ w1.heap.size) {os : List Obj}
    (he : os = [.cells #[.int .i32 ((vl (ops i) + 1) % 3)] 21, .cells #[.int .i64 (cB (ops i)), .func (.func 21) #[] #[.pointer (some ⟨w2.heap.size, 0, none⟩)]] 68, .cells #[.iface 62 (.pointer (some ⟨w2.heap.size + 1, 0, none⟩))] 46,
      .cells #[.int .i64 (cA (ops i))] 3, .cells #[.int .i32 (vl (ops i))] 21, .cells #[.bool true] 4,
      .cells #[.func (.func 24) #[] #[.pointer (some ⟨w2.heap.size + 3, 0, none⟩), .pointer (some ⟨w2.heap.size + 4, 0, none⟩), .pointer (some ⟨w2.heap.size + 5, 0, none⟩)], tv, .slice (some ⟨w2.heap.size + 2, 0, none⟩) 1 1] 57, R])
    (hS : Slc w1.heap.size w2.heap.size w2 tv ys) (hG : Seg (fun j u => Stmt w1.heap.size w2.heap.size w2 ops D (i + 1 + ln (ops i) i hi) j u) ops (i + 1 + ln (ops i) i hi) ys (i + 1) (i + 1 + ln (ops i) i hi)) (h12 : w1.heap.size ≤ w2.heap.size)
    (h : ∀ k, wr.heap.size ≤ k → k < (allocs w2 os).heap.size → w''.heap[k]? = (allocs w2 os).heap[k]?) : Stmt wr.heap.size (allocs w2 os).heap.size w'' ops (D + 1) hi i (.iface 55 (.pointer (some ⟨w2.heap.size + 6, 0, none⟩))) := by
  have hA : Agree w2 w'' os := fun k h1 h2 => h k (by omega) h2
  have hz := allocs_size os w2
  have hs : ∀ k, w1.heap.size ≤ k → k < w2.heap.size → w''.heap[k]? = w2.heap[k]? := fun k h1 h2 => by
    rw [h k (by omega) (by omega), (allocs_grown os w2).block k h2 (by simp)]
  have hZ : w2.heap.size ≤ (allocs w2 os).heap.size := by omega
  have hS2 := hS.same hs h01 hZ
  have hG2 := hG.carried fun j u hu => Stmt.same hs h01 hZ D _ j u hu
  subst he
  obtain ⟨a0, b0⟩ := hA.at 0 rfl
  obtain ⟨a1, b1⟩ := hA.at 1 rfl
  obtain ⟨a2, b2⟩ := hA.at 2 rfl
  obtain ⟨a3, b3⟩ := hA.at 3 rfl
  obtain ⟨a4, b4⟩ := hA.at 4 rfl
  obtain ⟨a5, b5⟩ := hA.at 5 rfl
  obtain ⟨a6, b6⟩ := hA.at 6 rfl
  have up : ∀ {k Z : Nat}, w2.heap.size ≤ k ∧ k < Z → wr.heap.size ≤ k ∧ k < Z := fun {k Z} hk => ⟨by omega, hk.2⟩
  refine .inr (.inr (.inr (.inr (.inr ⟨hk, _, _, tv, _, up a6, rfl, b6, ⟨_, _, _, ⟨up a3, up a4, up a5⟩, rfl, b3, b4, b5⟩, ⟨ys, hS2, hG2⟩, ⟨_, ⟨_, 1, rfl, Nat.le_refl _, by unfold maxLen; decide, .inr ⟨_, 0, rfl, up a2, ?_⟩⟩, ⟨_, _, ⟨up a1, up a0⟩, rfl, b1, b0⟩⟩⟩))))
  intro j hj
  obtain rfl : j = 0 := by simpa using hj
  simp only [World.cell?, b2]
  rfl

theorem grown_of_below {w w' : World} (h : Below w.heap.size w w') : w.grownBy w' none := ⟨h.os, h.tape, h.output, h.size, fun k hk _ => h.block k hk⟩

theorem OpsAt.alloc {w : World} {ao : Option Addr} {n : Nat} {ops : Nat → O5} (h : OpsAt w ao n ops) (o : Obj) : OpsAt (w.alloc o) ao n ops := h.below ((Below.refl _ _).alloc (Nat.le_refl _) _)

theorem Bld.addI {w wr w2 w' : World} {ops : Nat → O5} {D lo hi i g cap : Nat} {v y : Value} {ys : List Value} {os : List Obj} (h : Bld w wr ops D lo hi i v ys) (hg2 : wr.grownBy w2 none) (hi' : i < hi)
    (hown : w'.ownsRow w.heap.size 46 1 (.slice (some ⟨g, 0, none⟩) (ys.length + 1) cap) (ys.length + 1) (ys ++ [y])) (hg : (allocs w2 os).grownBy w' v.ownBlock) (hat : v.ownBlock = some g ∨ g = w2.heap.size + os.length)
    (hy : ∀ w'' : World, (∀ k, wr.heap.size ≤ k → k < (allocs w2 os).heap.size → w''.heap[k]? = (allocs w2 os).heap[k]?) → Stmt wr.heap.size (allocs w2 os).heap.size w'' ops D hi i y) : Hid (Bld w w' ops D lo hi (nx ops hi i) (.slice (some ⟨g, 0, none⟩) (ys.length + 1) cap) (ys ++ [y])) :=
  h.add (hg2.trans (allocs_grown os w2)) hi' hy hown hg (by rw [allocs_size]; exact hat)
end Go.Proofs.Ybulkbvqe
