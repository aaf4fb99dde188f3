/-
  SEAT b3605a: the compiled statements in memory; the blocks that are still to run.
-/
import Derived.Test.YbulkbvqeInv
import Derived.Test.YbulkbvqePlain
namespace Go.Proofs.Ybulkbvqe
open Go.ChangeShapes Go.WideShapes Go.ChangeAt Go.RowKit
set_option linter.unusedVariables false

section
variable (A Z : Nat) (w : World)

/-- A comparison of cell c with v, compiled. -/
def EqAt (fv : Value) (c : Nat) (v : Int) (want : Bool) : Prop :=
  ∃ p q r, ((A ≤ p ∧ p < Z) ∧ (A ≤ q ∧ q < Z) ∧ (A ≤ r ∧ r < Z)) ∧ fv = .func (.func 24) #[] #[.pointer (some ⟨p, 0, none⟩), .pointer (some ⟨q, 0, none⟩), .pointer (some ⟨r, 0, none⟩)] ∧
    w.heap[p]? = some (.cells #[.int .i64 c] 3 (0, 0)) ∧ w.heap[q]? = some (.cells #[.int .i32 v] 21 (0, 0)) ∧ w.heap[r]? = some (.cells #[.bool want] 4 (0, 0))
/-- 'cell c := v'. -/
def SetK (y : Value) (c : Nat) (v : Int) : Prop :=
  ∃ sm p, ((A ≤ sm ∧ sm < Z) ∧ (A ≤ p ∧ p < Z)) ∧ y = .iface 62 (.pointer (some ⟨sm, 0, none⟩)) ∧ w.heap[sm]? = some (.cells #[.int .i64 c, .func (.func 21) #[] #[.pointer (some ⟨p, 0, none⟩)]] 68 (0, 0)) ∧ w.heap[p]? = some (.cells #[.int .i32 v] 21 (0, 0))
/-- 'cell c := cell d'. -/
def SetC (y : Value) (c d : Nat) : Prop :=
  ∃ sm p, ((A ≤ sm ∧ sm < Z) ∧ (A ≤ p ∧ p < Z)) ∧ y = .iface 62 (.pointer (some ⟨sm, 0, none⟩)) ∧ w.heap[sm]? = some (.cells #[.int .i64 c, .func (.func 22) #[] #[.pointer (some ⟨p, 0, none⟩)]] 68 (0, 0)) ∧ w.heap[p]? = some (.cells #[.int .i64 d] 3 (0, 0))
/-- A requirement. -/
def Req (y : Value) (c : Nat) (v : Int) (want : Bool) : Prop :=
  ∃ sm fv, (A ≤ sm ∧ sm < Z) ∧ y = .iface 47 (.pointer (some ⟨sm, 0, none⟩)) ∧ w.heap[sm]? = some (.cells #[fv] 54 (0, 0)) ∧ EqAt A Z w fv c v want
/-- 'cell c := (cell d == v)'. -/
def Asg (y : Value) (c d : Nat) (v : Int) : Prop :=
  ∃ sm fv, (A ≤ sm ∧ sm < Z) ∧ y = .iface 60 (.pointer (some ⟨sm, 0, none⟩)) ∧
    w.heap[sm]? = some (.cells #[.bool true, .int .i64 c, .int .i64 1, .slice none 0 0, .slice none 0 0, .slice none 0 0, .slice none 0 0, .slice none 0 0, fv] 76 (0, 0)) ∧ EqAt A Z w fv d v true
/-- A slice of statements. -/
def Slc (v : Value) (ys : List Value) : Prop :=
  ∃ ao c, v = .slice ao ys.length c ∧ ys.length ≤ c ∧ c ≤ maxLen ∧ (ys = [] ∨ ∃ b o, ao = some ⟨b, o, none⟩ ∧ (A ≤ b ∧ b < Z) ∧ ∀ j, j < ys.length → w.cell? ⟨b, o + j, none⟩ = some (ys.getD j .nilIface))
end

/-- The values ys are the statements S from i up to e. -/
def Seg (S : Nat → Value → Prop) (ops : Nat → O5) (hi : Nat) : List Value → Nat → Nat → Prop
  | [], i, e => i = e
  | y :: ys, i, e => i < hi ∧ S i y ∧ Seg S ops hi ys (nx ops hi i) e

/-- The statement that ops[i] is compiled to, in a block that ends at hi, its depth at most D. -/
def Stmt (A Z : Nat) (w : World) (ops : Nat → O5) : Nat → Nat → Nat → Value → Prop
  | 0, _, _, _ => False
  | D + 1, hi, i, y =>
    (kd (ops i) = 0 ∧ SetK A Z w y (cA (ops i)) (vl (ops i))) ∨ (kd (ops i) = 1 ∧ SetC A Z w y (cA (ops i)) (cB (ops i))) ∨ (kd (ops i) = 2 ∧ Req A Z w y (cA (ops i)) (vl (ops i)) true) ∨
    (kd (ops i) = 3 ∧ Asg A Z w y (cA (ops i)) (cB (ops i)) (vl (ops i))) ∨ (kd (ops i) = 5 ∧ Req A Z w y (cA (ops i)) (vl (ops i)) false) ∨
    (kd (ops i) = 4 ∧ ∃ sm fv tv ev, (A ≤ sm ∧ sm < Z) ∧ y = .iface 55 (.pointer (some ⟨sm, 0, none⟩)) ∧ w.heap[sm]? = some (.cells #[fv, tv, ev] 57 (0, 0)) ∧ EqAt A Z w fv (cA (ops i)) (vl (ops i)) true ∧
      (∃ ys, Slc A Z w tv ys ∧ Seg (fun j u => Stmt A Z w ops D (i + 1 + ln (ops i) i hi) j u) ops (i + 1 + ln (ops i) i hi) ys (i + 1) (i + 1 + ln (ops i) i hi)) ∧
      (∃ u, Slc A Z w ev [u] ∧ SetK A Z w u (cB (ops i)) ((vl (ops i) + 1) % 3)))

/-- What is left of a block. -/
def Rem (A Z : Nat) (w : World) (ops : Nat → O5) (f : Fm) (ys : List Value) : Prop :=
  match f.els with
  | some (c, v) => ∃ y, ys = [y] ∧ SetK A Z w y c v
  | none => ∃ D e, f.hi ≤ e ∧ Seg (fun j u => Stmt A Z w ops D f.hi j u) ops f.hi ys f.i e

def Body (A Z : Nat) (w : World) (ops : Nat → O5) (bv : Value) (f : Fm) : Prop := ∃ ys, Slc A Z w bv ys ∧ Rem A Z w ops f ys

/-- The chain of what runs behind a block. -/
def Conts (g : Gh) (wp : World) (ops : Nat → O5) (w : World) : List Fm → Value → Prop
  | [], v => v = .pointer none
  | f :: fs, v => ∃ cb bv nv, v = .pointer (some ⟨cb, 0, none⟩) ∧ g.P1 ≤ cb ∧ w.heap[cb]? = some (.cells #[bv, nv] 59 (0, 0)) ∧ Body g.P0 g.P1 wp ops bv f ∧ Conts g wp ops w fs nv

theorem Conts.form {g : Gh} {wp : World} {ops : Nat → O5} {w : World} {fs : List Fm} {v : Value} (h : Conts g wp ops w fs v) : ∃ a, v = .pointer a := by
  cases fs with
  | nil => exact ⟨none, h⟩
  | cons f fs => obtain ⟨cb, bv, nv, rfl, _⟩ := h; exact ⟨_, rfl⟩

theorem Conts.carried {g : Gh} {wp : World} {ops : Nat → O5} {w w' : World} (hk : ∀ k cs, g.P1 ≤ k → w.heap[k]? = some (.cells cs 59 (0, 0)) → w'.heap[k]? = some (.cells cs 59 (0, 0))) : ∀ {fs : List Fm} {v : Value}, Conts g wp ops w fs v → Conts g wp ops w' fs v
  | [], _, h => h
  | f :: fs, v, ⟨cb, bv, nv, h1, h2, h3, h4, h5⟩ => ⟨cb, bv, nv, h1, h2, hk _ _ h2 h3, h4, h5.carried hk⟩

/-- The chain behind whatever a run may turn. -/
theorem Conts.frm {g : Gh} {wp : World} {ops : Nat → O5} {w w' : World} {sb : Nat} {st : List Int} (hs : St w sb st) (hF : Frm g sb w w') {fs : List Fm} {v : Value} (h : Conts g wp ops w fs v) : Conts g wp ops w' fs v := by
  refine h.carried fun k cs hk hh => hF.cold k cs 59 _ hk (fun e => ?_) hh (by decide) (by decide)
  subst e
  obtain ⟨tail, ht⟩ := hs
  rw [ht] at hh
  cases hh

section
variable {A Z A' Z' : Nat} {w w' : World}

theorem EqAt.same {fv : Value} {c : Nat} {v : Int} {want : Bool} (hs : ∀ k, A ≤ k → k < Z → w'.heap[k]? = w.heap[k]?) (hA : A' ≤ A) (hZ : Z ≤ Z') (h : EqAt A Z w fv c v want) : EqAt A' Z' w' fv c v want := by
  obtain ⟨p, q, r, ⟨hp, hq, hr⟩, h1, h2, h3, h4⟩ := h
  exact ⟨p, q, r, ⟨by omega, by omega, by omega⟩, h1, (hs p hp.1 hp.2).trans h2, (hs q hq.1 hq.2).trans h3, (hs r hr.1 hr.2).trans h4⟩
theorem SetK.same {y : Value} {c : Nat} {v : Int} (hs : ∀ k, A ≤ k → k < Z → w'.heap[k]? = w.heap[k]?) (hA : A' ≤ A) (hZ : Z ≤ Z') (h : SetK A Z w y c v) : SetK A' Z' w' y c v := by
  obtain ⟨sm, p, ⟨hm, hp⟩, h1, h2, h3⟩ := h
  exact ⟨sm, p, ⟨by omega, by omega⟩, h1, (hs sm hm.1 hm.2).trans h2, (hs p hp.1 hp.2).trans h3⟩
theorem SetC.same {y : Value} {c d : Nat} (hs : ∀ k, A ≤ k → k < Z → w'.heap[k]? = w.heap[k]?) (hA : A' ≤ A) (hZ : Z ≤ Z') (h : SetC A Z w y c d) : SetC A' Z' w' y c d := by
  obtain ⟨sm, p, ⟨hm, hp⟩, h1, h2, h3⟩ := h
  exact ⟨sm, p, ⟨by omega, by omega⟩, h1, (hs sm hm.1 hm.2).trans h2, (hs p hp.1 hp.2).trans h3⟩
theorem Req.same {y : Value} {c : Nat} {v : Int} {want : Bool} (hs : ∀ k, A ≤ k → k < Z → w'.heap[k]? = w.heap[k]?) (hA : A' ≤ A) (hZ : Z ≤ Z') (h : Req A Z w y c v want) : Req A' Z' w' y c v want := by
  obtain ⟨sm, fv, hm, h1, h2, h3⟩ := h
  exact ⟨sm, fv, by omega, h1, (hs sm hm.1 hm.2).trans h2, h3.same hs hA hZ⟩
theorem Asg.same {y : Value} {c d : Nat} {v : Int} (hs : ∀ k, A ≤ k → k < Z → w'.heap[k]? = w.heap[k]?) (hA : A' ≤ A) (hZ : Z ≤ Z') (h : Asg A Z w y c d v) : Asg A' Z' w' y c d v := by
  obtain ⟨sm, fv, hm, h1, h2, h3⟩ := h
  exact ⟨sm, fv, by omega, h1, (hs sm hm.1 hm.2).trans h2, h3.same hs hA hZ⟩
theorem Slc.same {v : Value} {ys : List Value} (hs : ∀ k, A ≤ k → k < Z → w'.heap[k]? = w.heap[k]?) (hA : A' ≤ A) (hZ : Z ≤ Z') (h : Slc A Z w v ys) : Slc A' Z' w' v ys := by
  obtain ⟨ao, c, h1, h2, h3, h4⟩ := h
  refine ⟨ao, c, h1, h2, h3, ?_⟩
  rcases h4 with h4 | ⟨b, o, h5, hb, h6⟩
  · exact .inl h4
  · refine .inr ⟨b, o, h5, by omega, fun j hj => ?_⟩
    rw [← h6 j hj]
    exact World.cell?_of_block (w := w) (a := ⟨b, o + j, none⟩) (hs b hb.1 hb.2)
theorem Seg.carried {S S' : Nat → Value → Prop} {ops : Nat → O5} {hi : Nat} (hS : ∀ i y, S i y → S' i y) : ∀ {ys : List Value} {i e : Nat}, Seg S ops hi ys i e → Seg S' ops hi ys i e
  | [], _, _, h => h
  | _ :: _, _, _, ⟨h1, h2, h3⟩ => ⟨h1, hS _ _ h2, Seg.carried hS h3⟩
theorem Seg.snoc {S : Nat → Value → Prop} {ops : Nat → O5} {hi : Nat} {y : Value} : ∀ {ys : List Value} {i e : Nat}, Seg S ops hi ys i e → e < hi → S e y → Seg S ops hi (ys ++ [y]) i (nx ops hi e)
  | [], i, e, h, h1, h2 => by cases (h : i = e); exact ⟨h1, h2, rfl⟩
  | _ :: _, _, _, ⟨k1, k2, k3⟩, h1, h2 => ⟨k1, k2, Seg.snoc k3 h1 h2⟩
theorem Stmt.same {ops : Nat → O5} (hs : ∀ k, A ≤ k → k < Z → w'.heap[k]? = w.heap[k]?) (hA : A' ≤ A) (hZ : Z ≤ Z') : ∀ (D hi i : Nat) (y : Value), Stmt A Z w ops D hi i y → Stmt A' Z' w' ops D hi i y := by
  intro D
  induction D with
  | zero => intro hi i y h; exact h
  | succ D ih =>
    intro hi i y h
    rcases h with ⟨k, h⟩ | ⟨k, h⟩ | ⟨k, h⟩ | ⟨k, h⟩ | ⟨k, h⟩ | ⟨k, sm, fv, tv, ev, hm, h1, h2, h3, ⟨ys, h4, h5⟩, ⟨u, h6, h7⟩⟩
    · exact .inl ⟨k, h.same hs hA hZ⟩
    · exact .inr (.inl ⟨k, h.same hs hA hZ⟩)
    · exact .inr (.inr (.inl ⟨k, h.same hs hA hZ⟩))
    · exact .inr (.inr (.inr (.inl ⟨k, h.same hs hA hZ⟩)))
    · exact .inr (.inr (.inr (.inr (.inl ⟨k, h.same hs hA hZ⟩))))
    · exact .inr (.inr (.inr (.inr (.inr ⟨k, sm, fv, tv, ev, by omega, h1, (hs sm hm.1 hm.2).trans h2, h3.same hs hA hZ, ⟨ys, h4.same hs hA hZ, h5.carried fun j u hu => ih _ _ _ hu⟩, ⟨u, h6.same hs hA hZ, h7.same hs hA hZ⟩⟩))))
end
end Go.Proofs.Ybulkbvqe
