/-
  SEAT b3605a: what holds of memory while the runner runs.
-/
import Derived.Test.YbulkbvqeFuns
namespace Go.Proofs.Ybulkbvqe
open Go.ChangeShapes Go.WideShapes Go.ChangeAt Go.RowKit
set_option linter.unusedVariables false

/-- The blocks of one run: the log's variable, the frame, the domains, the runner; the compiled statements lie from P0 up to P1. -/
structure Gh where
  lb : Nat
  fb : Nat
  db : Nat
  rb : Nat
  P0 : Nat
  P1 : Nat

def Gh.ok (g : Gh) : Prop := g.lb < g.fb ∧ g.fb < g.db ∧ g.db < g.rb ∧ g.rb < g.P0 ∧ g.P0 ≤ g.P1

/-- Block sb is a row that begins with the state's four cells. -/
def St (w : World) (sb : Nat) (st : List Int) : Prop := ∃ tail : List Value, w.heap[sb]? = some (.cells (st.map (Value.int .i32) ++ tail).toArray 21 (0, 0))

/-- The log's elements: the states es, each in its own block. -/
def Elems (g : Gh) (w : World) : List (List Int) → List Nat → List Value → Prop
  | [], [], [] => True
  | e :: es, b :: bs, x :: xs => (∃ c, x = .slice (some ⟨b, 0, none⟩) 4 c) ∧ g.P1 ≤ b ∧ St w b e ∧ Elems g w es bs xs
  | _, _, _ => False

def frameB (mv : Value) (bl : Int) : Obj := .cells #[.slice none 0 0, mv, .slice none 0 0, .int .i32 bl] 37 (0, 0)
def runnerB (g : Gh) (wv : Value) : Obj := .cells #[.pointer (some ⟨g.fb, 0, none⟩), .slice (some ⟨g.db, 0, none⟩) 4 4, .func (.func 10) #[] #[.pointer (some ⟨g.lb, 0, none⟩)], wv] 41 (0, 0)
def domB : Obj := .cells #[.int .i32 3, .int .i32 3, .int .i32 3, .int .i32 3] 21 (0, 0)

structure Inv (g : Gh) (wp w : World) (mv : Value) (bl : Int) (es : List (List Int)) (bs : List Nat) : Prop where
  ok : g.ok
  sz : g.P1 ≤ w.heap.size
  fr : w.heap[g.fb]? = some (frameB mv bl)
  rn : ∃ wv k ys, w.heap[g.rb]? = some (runnerB g wv) ∧ w.ownsRow g.P1 78 2 wv k ys
  lg : ∃ lv xs, w.heap[g.lb]? = some (.cells #[lv] 27 (0, 0)) ∧ w.ownsRow g.P1 24 1 lv es.length xs ∧ Elems g w es bs xs
  dm : w.heap[g.db]? = some domB
  pr : ∀ k, g.P0 ≤ k → k < g.P1 → w.heap[k]? = wp.heap[k]?

theorem lt_of_block {w : World} {b : Nat} {o : Obj} (h : w.heap[b]? = some o) : b < w.heap.size := (Array.getElem?_eq_some_iff.1 h).1

/-- WHAT A RUN FROM THE STATE IN BLOCK sb MAY TURN of what was there: the log's variable, the frame, the runner, the state; behind P1 no row of other tags than the log's (24) and the writes' (78). -/
structure Frm (g : Gh) (sb : Nat) (w w' : World) : Prop where
  os : w'.os = w.os
  tape : w'.tape = w.tape
  output : w'.output = w.output
  size : w.heap.size ≤ w'.heap.size
  low : ∀ k, k < g.P1 → k ≠ g.lb → k ≠ g.fb → k ≠ g.rb → k ≠ sb → w'.heap[k]? = w.heap[k]?
  cold : ∀ k cs t fz, g.P1 ≤ k → k ≠ sb → w.heap[k]? = some (.cells cs t fz) → t ≠ 24 → t ≠ 78 → w'.heap[k]? = some (.cells cs t fz)

theorem Frm.refl (g : Gh) (sb : Nat) (w : World) : Frm g sb w w := ⟨rfl, rfl, rfl, Nat.le_refl _, fun _ _ _ _ _ _ => rfl, fun _ _ _ _ _ _ h _ _ => h⟩

theorem Frm.trans {g : Gh} {sb sb' : Nat} {a b c : World} (h : Frm g sb a b) (k : Frm g sb' b c) (hP : g.P1 ≤ a.heap.size) (hs : sb' = sb ∨ a.heap.size ≤ sb') : Frm g sb a c := by
  refine ⟨k.os.trans h.os, k.tape.trans h.tape, k.output.trans h.output, Nat.le_trans h.size k.size, ?_, ?_⟩
  · intro i hi h1 h2 h3 h4
    have : i ≠ sb' := by rcases hs with rfl | hs; exact h4; omega
    exact (k.low i hi h1 h2 h3 this).trans (h.low i hi h1 h2 h3 h4)
  · intro i cs t fz hi h4 hh h5 h6
    have hlt := lt_of_block hh
    have : i ≠ sb' := by rcases hs with rfl | hs; exact h4; omega
    exact k.cold i cs t fz hi this (h.cold i cs t fz hi h4 hh h5 h6) h5 h6

/-- New blocks and draws. -/
theorem Frm.grown {g : Gh} {sb : Nat} {w w' : World} (hg : w.grownBy w' none) (hP : g.P1 ≤ w.heap.size) : Frm g sb w w' :=
  ⟨hg.os, hg.tape, hg.output, hg.size, fun k hk _ _ _ _ => hg.block k (by omega) (by simp), fun k cs t fz _ _ hh _ _ => (hg.block k (lt_of_block hh) (by simp)).trans hh⟩

/-- A store into the frame, the runner, the log's variable or the state. -/
theorem Frm.setCell {g : Gh} {sb b o : Nat} {v : Value} {w : World} (hb : b = sb ∨ b = g.fb ∨ b = g.rb ∨ b = g.lb) (ho : g.ok) : Frm g sb w (w.setCell ⟨b, o, none⟩ v) := by
  refine ⟨rfl, rfl, rfl, by simp [World.setCell], ?_, ?_⟩
  · intro k hk h1 h2 h3 h4
    exact Below.heap_setCell _ _ _ _ (by simp; omega)
  · intro k cs t fz hk h4 hh _ _
    obtain ⟨o1, o2, o3, o4, o5⟩ := ho
    rw [Below.heap_setCell _ _ _ _ (by simp; omega)]
    exact hh

theorem gb_drewN {w w' : World} {r : Option Nat} (h : w.grownBy w' r) (q : Nat) : w.grownBy (w'.drewN q) r := ⟨h.os, h.tape, h.output, h.size, h.block⟩
theorem Frm.drewN {g : Gh} {sb : Nat} {w w' : World} (h : Frm g sb w w') (q : Nat) : Frm g sb w (w'.drewN q) := ⟨h.os, h.tape, h.output, h.size, h.low, h.cold⟩

theorem Elems.carried {g : Gh} {w w' : World} : ∀ {es : List (List Int)} {bs : List Nat} {xs : List Value}, Elems g w es bs xs → (∀ b ∈ bs, g.P1 ≤ b → ∀ st, St w b st → St w' b st) → Elems g w' es bs xs
  | [], [], [], _, _ => trivial
  | e :: es, b :: bs, x :: xs, h, hk => ⟨h.1, h.2.1, hk b (by simp) h.2.1 e h.2.2.1, Elems.carried h.2.2.2 (fun b' hb => hk b' (by simp [hb]))⟩
  | [], [], _ :: _, h, _ => h.elim
  | [], _ :: _, _, h, _ => h.elim
  | _ :: _, [], _, h, _ => h.elim
  | _ :: _, _ :: _, [], h, _ => h.elim

theorem owns_same {w w' : World} {B : Nat} {e size : Nat} {v : Value} {n : Nat} {xs : List Value} (h : w.ownsRow B e size v n xs) (hs : ∀ k cs, B ≤ k → w.heap[k]? = some (.cells cs e (0, 0)) → w'.heap[k]? = some (.cells cs e (0, 0))) : w'.ownsRow B e size v n xs := by
  obtain ⟨h1, h2⟩ := h
  refine ⟨h1, ?_⟩
  rcases h2 with h2 | ⟨g, cap, cur, hv, hB, hh, r⟩
  · exact .inl h2
  · exact .inr ⟨g, cap, cur, hv, hB, hs g cur hB hh, r⟩

/-- ONE BLOCK X HAS TURNED, which is none of the runner's own (but the frame), none of the program's, none of the log's. -/
theorem Inv.turn {g : Gh} {wp w w' : World} {mv mv' : Value} {bl bl' : Int} {es : List (List Int)} {bs : List Nat} (h : Inv g wp w mv bl es bs) (X : Nat)
    (hsz : w.heap.size ≤ w'.heap.size) (same : ∀ k, k < w.heap.size → k ≠ X → w'.heap[k]? = w.heap[k]?) (hX : X = g.fb ∨ ((X < g.lb ∨ g.P1 ≤ X) ∧ X ∉ bs ∧ ∀ cs t fz, w.heap[X]? = some (.cells cs t fz) → t ≠ 24 ∧ t ≠ 78))
    (hf : w'.heap[g.fb]? = some (frameB mv' bl')) : Inv g wp w' mv' bl' es bs := by
  obtain ⟨o1, o2, o3, o4, o5⟩ := h.ok
  have hP := h.sz
  have hrow : ∀ e, (e = 24 ∨ e = 78) → ∀ k cs, g.P1 ≤ k → w.heap[k]? = some (.cells cs e (0, 0)) → w'.heap[k]? = some (.cells cs e (0, 0)) := by
    intro e he k cs hk hh
    rw [same k (lt_of_block hh) ?_]
    · exact hh
    · rintro rfl
      rcases hX with rfl | ⟨_, _, hX⟩
      · omega
      · have := hX _ _ _ hh
        rcases he with rfl | rfl <;> simp_all
  have hne : ∀ k, k = g.lb ∨ k = g.db ∨ k = g.rb ∨ (g.P0 ≤ k ∧ k < g.P1) → k ≠ X := by
    intro k hk
    rcases hX with rfl | ⟨hX, _⟩ <;> omega
  refine ⟨h.ok, by omega, hf, ?_, ?_, ?_, ?_⟩
  · obtain ⟨wv, k, ys, h1, h2⟩ := h.rn
    exact ⟨wv, k, ys, (same _ (by omega) (hne _ (by simp))).trans h1, owns_same h2 (hrow 78 (.inr rfl))⟩
  · obtain ⟨lv, xs, h1, h2, h3⟩ := h.lg
    refine ⟨lv, xs, (same _ (by omega) (hne _ (by simp))).trans h1, owns_same h2 (hrow 24 (.inl rfl)), h3.carried ?_⟩
    intro b hb hbP st hst
    obtain ⟨tail, ht⟩ := hst
    refine ⟨tail, (same b (lt_of_block ht) ?_).trans ht⟩
    rintro rfl
    rcases hX with rfl | ⟨_, hX, _⟩
    · omega
    · exact hX hb
  · exact (same _ (by omega) (hne _ (by simp))).trans h.dm
  · intro k hk0 hk1
    exact (same k (by omega) (hne _ (by omega))).trans (h.pr k hk0 hk1)

theorem heap_setCell_at {w : World} {b k : Nat} {cs : Array Value} {t : TypeId} {v : Value} (h : w.heap[b]? = some (.cells cs t (0, 0))) : (w.setCell ⟨b, k, none⟩ v).heap[b]? = some (.cells (cs.setIfInBounds k v) t (0, 0)) := by
  simp only [World.setCell, Array.getElem?_modify]
  simp [h]

theorem Inv.blame {g : Gh} {wp w : World} {mv : Value} {bl : Int} {es : List (List Int)} {bs : List Nat} (h : Inv g wp w mv bl es bs) (x : Int) : Inv g wp (w.setCell ⟨g.fb, 3, none⟩ (.int .i32 x)) mv x es bs :=
  h.turn g.fb (by simp [World.setCell]) (fun k _ hk => Below.heap_setCell _ _ _ _ hk) (.inl rfl) (by simpa [frameB] using heap_setCell_at (k := 3) (v := .int .i32 x) h.fr)

theorem Inv.mut {g : Gh} {wp w : World} {mv : Value} {bl : Int} {es : List (List Int)} {bs : List Nat} (h : Inv g wp w mv bl es bs) (x : Value) : Inv g wp (w.setCell ⟨g.fb, 1, none⟩ x) x bl es bs :=
  h.turn g.fb (by simp [World.setCell]) (fun k _ hk => Below.heap_setCell _ _ _ _ hk) (.inl rfl) (by simpa [frameB] using heap_setCell_at (k := 1) (v := x) h.fr)

theorem Inv.grown {g : Gh} {wp w w' : World} {mv : Value} {bl : Int} {es : List (List Int)} {bs : List Nat} (h : Inv g wp w mv bl es bs) (hg : w.grownBy w' none) : Inv g wp w' mv bl es bs :=
  h.turn g.fb hg.size (fun k hk _ => hg.block k hk (by simp)) (.inl rfl) ((hg.block _ (lt_of_block h.fr) (by simp)).trans h.fr)

theorem Inv.drewN {g : Gh} {wp w : World} {mv : Value} {bl : Int} {es : List (List Int)} {bs : List Nat} (h : Inv g wp w mv bl es bs) (q : Nat) : Inv g wp (w.drewN q) mv bl es bs :=
  h.grown (gb_drewN (World.grownBy.refl w none) q)

/-- The state's block is none of the others. -/
def Free (g : Gh) (sb : Nat) (bs : List Nat) : Prop := (sb < g.lb ∨ g.P1 ≤ sb) ∧ sb ∉ bs

theorem Inv.store {g : Gh} {wp w : World} {mv : Value} {bl : Int} {es : List (List Int)} {bs : List Nat} (h : Inv g wp w mv bl es bs) {sb : Nat} {st : List Int} (hs : St w sb st) (hf : Free g sb bs) (c : Nat) (x : Value) : Inv g wp (w.setCell ⟨sb, c, none⟩ x) mv bl es bs := by
  obtain ⟨o1, o2, o3, o4, o5⟩ := h.ok
  obtain ⟨tail, ht⟩ := hs
  refine h.turn sb (by simp [World.setCell]) (fun k _ hk => Below.heap_setCell _ _ _ _ hk) (.inr ⟨hf.1, hf.2, ?_⟩) ?_
  · intro cs t fz hh
    rw [ht] at hh
    cases hh
    decide
  · rw [Below.heap_setCell _ _ _ _ (by have := hf.1; simp; omega)]
    exact h.fr

theorem St.store {w : World} {sb : Nat} {st : List Int} (h : St w sb st) (c : Nat) (hc : c < st.length) (x : Int) : St (w.setCell ⟨sb, c, none⟩ (.int .i32 x)) sb (st.set c x) := by
  obtain ⟨tail, ht⟩ := h
  refine ⟨tail, ?_⟩
  rw [heap_setCell_at ht]
  congr 2
  simp [hc, List.map_set]

theorem St.other {w w' : World} {sb : Nat} {st : List Int} (h : St w sb st) (hh : w'.heap[sb]? = w.heap[sb]?) : St w' sb st := by
  obtain ⟨tail, ht⟩ := h
  exact ⟨tail, hh.trans ht⟩

theorem St.cell {w : World} {sb : Nat} {st : List Int} (h : St w sb st) (c : Nat) (hc : c < st.length) : w.cell? ⟨sb, c, none⟩ = some (.int .i32 (st.getD c 0)) ∧ w.frozen? ⟨sb, c, none⟩ = false := by
  obtain ⟨tail, ht⟩ := h
  refine ⟨?_, ?_⟩
  · simp only [World.cell?, ht]
    simp [List.getElem?_append, hc, List.getD]
  · simp only [World.frozen?, ht]
    simp

theorem Inv.cells {g : Gh} {wp w : World} {mv : Value} {bl : Int} {es : List (List Int)} {bs : List Nat} (h : Inv g wp w mv bl es bs) :
    w.cell? ⟨g.fb, 1, none⟩ = some mv ∧ w.cell? ⟨g.fb, 2, none⟩ = some (.slice none 0 0) ∧ w.cell? ⟨g.fb, 3, none⟩ = some (.int .i32 bl) ∧ w.frozen? ⟨g.fb, 1, none⟩ = false ∧ w.frozen? ⟨g.fb, 3, none⟩ = false ∧
      w.cell? ⟨g.rb, 0, none⟩ = some (.pointer (some ⟨g.fb, 0, none⟩)) ∧ w.cell? ⟨g.rb, 1, none⟩ = some (.slice (some ⟨g.db, 0, none⟩) 4 4) ∧ w.cell? ⟨g.rb, 2, none⟩ = some (.func (.func 10) #[] #[.pointer (some ⟨g.lb, 0, none⟩)]) ∧
      (∀ c, c < 4 → w.cell? ⟨g.db, c, none⟩ = some (.int .i32 3)) := by
  obtain ⟨wv, k, ys, hr, _⟩ := h.rn
  refine ⟨?_, ?_, ?_, ?_, ?_, ?_, ?_, ?_, ?_⟩
  · simp only [World.cell?, h.fr, frameB]; rfl
  · simp only [World.cell?, h.fr, frameB]; rfl
  · simp only [World.cell?, h.fr, frameB]; rfl
  · simp only [World.frozen?, h.fr, frameB]; rfl
  · simp only [World.frozen?, h.fr, frameB]; rfl
  · simp only [World.cell?, hr, runnerB]; rfl
  · simp only [World.cell?, hr, runnerB]; rfl
  · simp only [World.cell?, hr, runnerB]; rfl
  · intro c hc
    simp only [World.cell?, h.dm, domB]
    have : c = 0 ∨ c = 1 ∨ c = 2 ∨ c = 3 := by omega
    rcases this with rfl | rfl | rfl | rfl <;> rfl
end Go.Proofs.Ybulkbvqe
