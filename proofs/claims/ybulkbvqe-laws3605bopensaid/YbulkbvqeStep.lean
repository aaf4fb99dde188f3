/-
  SEAT b3605a: what each statement of a block does, in the words of the run.
-/
import Derived.Test.YbulkbvqeSplit
import Derived.Test.YbulkbvqeAssign
namespace Go.Proofs.Ybulkbvqe
open Go.ChangeShapes Go.WideShapes Go.ChangeAt Go.RowKit
set_option linter.unusedVariables false

/-- The program's blocks in a later world. -/
theorem Inv.at {g : Gh} {wp w : World} {mv : Value} {bl : Int} {es : List (List Int)} {bs : List Nat} (h : Inv g wp w mv bl es bs) {k : Nat} {o : Obj} (hk : g.P0 ≤ k ∧ k < g.P1) (hh : wp.heap[k]? = some o) : w.heap[k]? = some o := (h.pr k hk.1 hk.2).trans hh

theorem Frm.step {g : Gh} {sb : Nat} {a b c : World} (h : Frm g sb a b) (k : Frm g sb b c) (hP : g.P1 ≤ a.heap.size) : Frm g sb a c := h.trans k hP (.inl rfl)

/-- The world behind a setting. -/
theorem set_world {g : Gh} {wp wr : World} {mv : Value} {bl : Int} {es : List (List Int)} {bs : List Nat} {sb c n : Nat} {st : List Int} {x : Int} (hI : Inv g wp wr mv bl es bs) (hS : St wr sb st) (hF : Free g sb bs) (hc : c < st.length) :
    Inv g wp (((wr.setCell ⟨g.fb, 3, none⟩ (.int .i32 (-1))).drewN n).setCell ⟨sb, c, none⟩ (.int .i32 x)) mv (-1) es bs ∧ St (((wr.setCell ⟨g.fb, 3, none⟩ (.int .i32 (-1))).drewN n).setCell ⟨sb, c, none⟩ (.int .i32 x)) sb (st.set c x) ∧
      Frm g sb wr (((wr.setCell ⟨g.fb, 3, none⟩ (.int .i32 (-1))).drewN n).setCell ⟨sb, c, none⟩ (.int .i32 x)) := by
  have hne : sb ≠ g.fb := by obtain ⟨o1, o2, o3, o4, o5⟩ := hI.ok; have := hF.1; omega
  have h1 : St ((wr.setCell ⟨g.fb, 3, none⟩ (.int .i32 (-1))).drewN n) sb st := hS.other (Below.heap_setCell _ _ _ _ hne)
  exact ⟨((hI.blame (-1)).drewN n).store h1 hF c _, h1.store c hc x, ((Frm.setCell (.inr (.inl rfl)) hI.ok).drewN n).step (Frm.setCell (.inl rfl) hI.ok) hI.sz⟩

section
variable {g : Gh} {wp w : World} {bl : Int} {es : List (List Int)} {bs : List Nat} {sb cap : Nat} {st : List Int}

/-- A comparison of a chosen cell. -/
theorem eval_yes {fv : Value} {c : Nat} {v : Int} {want : Bool} (hI : Inv g wp w (.slice (some ⟨sb, 0, none⟩) 4 cap) bl es bs) (hS : St w sb st) (hF : Free g sb bs) (hO : Ok st) (hE : EqAt g.P0 g.P1 wp fv c v want) (hc : c < 4) (hx : ¬ st.getD c 0 = -1) :
    Calls Yba.prog 13 #[.pointer (some ⟨g.rb, 0, none⟩), fv] w fun e w' => e = .returned (.int .i8 (says (st.getD c 0) v want)) ∧ Inv g wp w' (.slice (some ⟨sb, 0, none⟩) 4 cap) (-1) es bs ∧ St w' sb st ∧ Frm g sb w w' := by
  obtain ⟨p, q, r, ⟨hp, hq, hr⟩, rfl, h1, h2, h3⟩ := hE
  obtain ⟨i1, i2, i3, i4, i5, i6, i7, i8, i9⟩ := hI.cells
  obtain ⟨o1, o2, o3, o4, o5⟩ := hI.ok
  have hne : sb ≠ g.fb := by have := hF.1; omega
  have hl : c < st.length := by rw [hO.1]; exact hc
  refine (eval_closed g.fb g.rb sb cap c p q r (st.getD c 0) v want (.int .i32 bl) w hc hx (by omega) (by omega) (by omega) hne (cell_at (k := 0) (hI.at hp h1) rfl).1 (cell_at (k := 0) (hI.at hq h2) rfl).1 (cell_at (k := 0) (hI.at hr h3) rfl).1 i6 (by omega) i1 (hS.cell c hl).1 i3 i5).mono ?_
  rintro e w' ⟨rfl, rfl⟩
  exact ⟨rfl, hI.blame _, hS.other (Below.heap_setCell _ _ _ _ hne), Frm.setCell (.inr (.inl rfl)) hI.ok⟩

/-- A comparison of an open cell. -/
theorem eval_stop {fv : Value} {c : Nat} {v : Int} {want : Bool} (hI : Inv g wp w (.slice (some ⟨sb, 0, none⟩) 4 cap) bl es bs) (hS : St w sb st) (hF : Free g sb bs) (hO : Ok st) (hE : EqAt g.P0 g.P1 wp fv c v want) (hc : c < 4) (hx : st.getD c 0 = -1) :
    Calls Yba.prog 13 #[.pointer (some ⟨g.rb, 0, none⟩), fv] w fun e w' => e = .returned (.int .i8 1) ∧ Inv g wp w' (.slice (some ⟨sb, 0, none⟩) 4 cap) c es bs ∧ St w' sb st ∧ Frm g sb w w' := by
  obtain ⟨p, q, r, ⟨hp, hq, hr⟩, rfl, h1, h2, h3⟩ := hE
  obtain ⟨i1, i2, i3, i4, i5, i6, i7, i8, i9⟩ := hI.cells
  obtain ⟨o1, o2, o3, o4, o5⟩ := hI.ok
  have hne : sb ≠ g.fb := by have := hF.1; omega
  have hl : c < st.length := by rw [hO.1]; exact hc
  refine (eval_open g.fb g.rb sb cap c p q r v want (.int .i32 bl) w hc (by omega) (by omega) (by omega) hne (cell_at (k := 0) (hI.at hp h1) rfl).1 (cell_at (k := 0) (hI.at hq h2) rfl).1 (cell_at (k := 0) (hI.at hr h3) rfl).1 i6 (by omega) i1 (hx ▸ (hS.cell c hl).1) i3 i5).mono ?_
  rintro e w' ⟨rfl, rfl⟩
  exact ⟨rfl, (hI.blame _).blame _, (hS.other (Below.heap_setCell _ _ _ _ hne)).other (Below.heap_setCell _ _ _ _ hne), (Frm.setCell (.inr (.inl rfl)) hI.ok).step (Frm.setCell (.inr (.inl rfl)) hI.ok) hI.sz⟩

/-- A setting to a constant. -/
theorem set_yes {a : Addr} {c : Nat} {v : Int} (hI : Inv g wp w (.slice (some ⟨sb, 0, none⟩) 4 cap) bl es bs) (hS : St w sb st) (hF : Free g sb bs) (hO : Ok st) (hE : SetK g.P0 g.P1 wp (.iface 62 (.pointer (some a))) c v) (hc : c < 4) (hv : 0 ≤ v ∧ v ≤ 2) :
    Calls Yba.prog 16 #[.pointer (some ⟨g.rb, 0, none⟩), .pointer (some a)] w fun e w' => e = .returned (.bool true) ∧ Inv g wp w' (.slice (some ⟨sb, 0, none⟩) 4 cap) (-1) es bs ∧ St w' sb (st.set c v) ∧ Frm g sb w w' := by
  obtain ⟨sm, p, ⟨hm, hp⟩, hy, h1, h2⟩ := hE
  cases hy
  obtain ⟨i1, i2, i3, i4, i5, i6, i7, i8, i9⟩ := hI.cells
  obtain ⟨o1, o2, o3, o4, o5⟩ := hI.ok
  have hne : sb ≠ g.fb := by have := hF.1; omega
  have hl : c < st.length := by rw [hO.1]; exact hc
  refine (set_const g.fb g.rb sb cap sm c p v (.int .i32 bl) (.int .i32 (st.getD c 0)) w hc (by omega) (by omega) hne (by omega) (by omega) (cell_at (k := 0) (hI.at hm h1) rfl).1 (cell_at (k := 1) (hI.at hm h1) rfl).1 (cell_at (k := 0) (hI.at hp h2) rfl).1 i6 i1 (hS.cell c hl).1 (hS.cell c hl).2 i3 i5).mono ?_
  rintro e w' ⟨rfl, n, rfl⟩
  obtain ⟨a1, a2, a3⟩ := set_world (n := n) (x := v) hI hS hF hl
  exact ⟨rfl, a1, a2, a3⟩

/-- A setting to a chosen cell's value. -/
theorem copy_yes {a : Addr} {c d : Nat} (hI : Inv g wp w (.slice (some ⟨sb, 0, none⟩) 4 cap) bl es bs) (hS : St w sb st) (hF : Free g sb bs) (hO : Ok st) (hE : SetC g.P0 g.P1 wp (.iface 62 (.pointer (some a))) c d) (hc : c < 4) (hd : d < 4) (hx : ¬ st.getD d 0 = -1) :
    Calls Yba.prog 16 #[.pointer (some ⟨g.rb, 0, none⟩), .pointer (some a)] w fun e w' => e = .returned (.bool true) ∧ Inv g wp w' (.slice (some ⟨sb, 0, none⟩) 4 cap) (-1) es bs ∧ St w' sb (st.set c (st.getD d 0)) ∧ Frm g sb w w' := by
  obtain ⟨sm, p, ⟨hm, hp⟩, hy, h1, h2⟩ := hE
  cases hy
  obtain ⟨i1, i2, i3, i4, i5, i6, i7, i8, i9⟩ := hI.cells
  obtain ⟨o1, o2, o3, o4, o5⟩ := hI.ok
  have hne : sb ≠ g.fb := by have := hF.1; omega
  have hl : c < st.length := by rw [hO.1]; exact hc
  have hl2 : d < st.length := by rw [hO.1]; exact hd
  refine (set_copy g.fb g.rb sb cap sm c d p (st.getD d 0) (.int .i32 bl) (.int .i32 (st.getD c 0)) w hc hd hx (by omega) hne (by omega) (by omega) (cell_at (k := 0) (hI.at hm h1) rfl).1 (cell_at (k := 1) (hI.at hm h1) rfl).1 (cell_at (k := 0) (hI.at hp h2) rfl).1 i6 i1 (hS.cell c hl).1 (hS.cell d hl2).1 (hS.cell c hl).2 i3 i5).mono ?_
  rintro e w' ⟨rfl, n, rfl⟩
  obtain ⟨a1, a2, a3⟩ := set_world (n := n) (x := st.getD d 0) hI hS hF hl
  exact ⟨rfl, a1, a2, a3⟩

/-- A setting to an open cell's value. -/
theorem copy_stop {a : Addr} {c d : Nat} (hI : Inv g wp w (.slice (some ⟨sb, 0, none⟩) 4 cap) bl es bs) (hS : St w sb st) (hF : Free g sb bs) (hO : Ok st) (hE : SetC g.P0 g.P1 wp (.iface 62 (.pointer (some a))) c d) (hd : d < 4) (hx : st.getD d 0 = -1) :
    Calls Yba.prog 16 #[.pointer (some ⟨g.rb, 0, none⟩), .pointer (some a)] w fun e w' => e = .returned (.bool false) ∧ Inv g wp w' (.slice (some ⟨sb, 0, none⟩) 4 cap) d es bs ∧ St w' sb st ∧ Frm g sb w w' := by
  obtain ⟨sm, p, ⟨hm, hp⟩, hy, h1, h2⟩ := hE
  cases hy
  obtain ⟨i1, i2, i3, i4, i5, i6, i7, i8, i9⟩ := hI.cells
  obtain ⟨o1, o2, o3, o4, o5⟩ := hI.ok
  have hne : sb ≠ g.fb := by have := hF.1; omega
  have hl2 : d < st.length := by rw [hO.1]; exact hd
  refine (set_open g.fb g.rb sb cap sm d p (.int .i32 bl) w hd (by omega) hne (by omega) (by omega) (cell_at (k := 1) (hI.at hm h1) rfl).1 (cell_at (k := 0) (hI.at hp h2) rfl).1 i6 i1 (hx ▸ (hS.cell d hl2).1) i3 i5).mono ?_
  rintro e w' ⟨rfl, n, rfl⟩
  exact ⟨rfl, ((hI.blame _).drewN n).blame _, (hS.other (Below.heap_setCell _ _ _ _ hne)).other (Below.heap_setCell _ _ _ _ hne), ((Frm.setCell (.inr (.inl rfl)) hI.ok).drewN n).step (Frm.setCell (.inr (.inl rfl)) hI.ok) hI.sz⟩

theorem asg_at {a : Addr} {c d : Nat} {v : Int} {mv : Value} (hI : Inv g wp w mv bl es bs) (hE : Asg g.P0 g.P1 wp (.iface 60 (.pointer (some a))) c d v) :
    ∃ sm p q r, a = ⟨sm, 0, none⟩ ∧ AsgAt w sm p q r c d v ∧ (g.P0 ≤ sm ∧ sm < g.P1) ∧ (g.P0 ≤ p ∧ p < g.P1) ∧ (g.P0 ≤ q ∧ q < g.P1) ∧ (g.P0 ≤ r ∧ r < g.P1) := by
  obtain ⟨sm, fv, hm, hy, h1, ⟨p, q, r, ⟨hp, hq, hr⟩, rfl, h2, h3, h4⟩⟩ := hE
  cases hy
  exact ⟨sm, p, q, r, rfl, ⟨hI.at hm h1, hI.at hp h2, hI.at hq h3, hI.at hr h4⟩, hm, hp, hq, hr⟩

theorem asg_yes {a : Addr} {c d : Nat} {v : Int} (hI : Inv g wp w (.slice (some ⟨sb, 0, none⟩) 4 cap) bl es bs) (hS : St w sb st) (hF : Free g sb bs) (hO : Ok st) (hE : Asg g.P0 g.P1 wp (.iface 60 (.pointer (some a))) c d v) (hc : c < 4) (hd : d < 4) (hx : ¬ st.getD d 0 = -1) :
    Calls Yba.prog 15 #[.pointer (some ⟨g.rb, 0, none⟩), .pointer (some a)] w fun e w' => e = .returned (.bool true) ∧ Inv g wp w' (.slice (some ⟨sb, 0, none⟩) 4 cap) (-1) es bs ∧ St w' sb (st.set c (if st.getD d 0 = v then 1 else 0)) ∧ Frm g sb w w' := by
  obtain ⟨sm, p, q, r, rfl, hA, hP⟩ := asg_at hI hE
  exact assign_closed g wp w bl es bs sb cap sm p q r c d v st _ rfl hI hS hF hO.1 hc hd hx hA hP

theorem asg_stop {a : Addr} {c d : Nat} {v : Int} (hI : Inv g wp w (.slice (some ⟨sb, 0, none⟩) 4 cap) bl es bs) (hS : St w sb st) (hF : Free g sb bs) (hO : Ok st) (hE : Asg g.P0 g.P1 wp (.iface 60 (.pointer (some a))) c d v) (hc : c < 4) (hd : d < 4) (hx : st.getD d 0 = -1) :
    Calls Yba.prog 15 #[.pointer (some ⟨g.rb, 0, none⟩), .pointer (some a)] w fun e w' => e = .returned (.bool false) ∧ Inv g wp w' (.slice (some ⟨sb, 0, none⟩) 4 cap) d es bs ∧ St w' sb st ∧ Frm g sb w w' := by
  obtain ⟨sm, p, q, r, rfl, hA, hP⟩ := asg_at hI hE
  exact assign_open g wp w bl es bs sb cap sm p q r c d v st hI hS hF hO.1 hc hd hx hA hP
end
end Go.Proofs.Ybulkbvqe
