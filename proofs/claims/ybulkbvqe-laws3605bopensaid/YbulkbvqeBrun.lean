/-
  WALKS for seat b3605a: the program is built and run; the log.
-/
import Derived.Test.YbulkbvqeBuild2
import Derived.Test.YbulkbvqeRun
import Derived.Test.YbulkbvqeCover
namespace Go.Proofs.Ybulkbvqe
open Go.ChangeShapes Go.WideShapes Go.ChangeAt Go.RowKit
set_option linter.unusedVariables false

/-- The log in memory: its states, each in a block of its own, none below lo. -/
def LogAt (w : World) (lo : Nat) (lv : Value) (es : List (List Int)) : Prop :=
  ∃ ao cap, lv = .slice ao es.length cap ∧ (es = [] ∨ ∃ g, ao = some ⟨g, 0, none⟩ ∧ lo ≤ g ∧ g < w.heap.size ∧ ∀ j, j < es.length → ∃ b c, w.cell? ⟨g, j, none⟩ = some (.slice (some ⟨b, 0, none⟩) 4 c) ∧ lo ≤ b ∧ b < w.heap.size ∧ St w b (es.getD j []))

theorem Elems.at {g : Gh} {w : World} : ∀ {es : List (List Int)} {bs : List Nat} {xs : List Value}, Elems g w es bs xs → ∀ j, j < es.length → ∃ b c, xs[j]? = some (.slice (some ⟨b, 0, none⟩) 4 c) ∧ g.P1 ≤ b ∧ St w b (es.getD j [])
  | e :: es, b :: bs, x :: xs, h, 0, _ => by
    obtain ⟨⟨c, rfl⟩, h2, h3, h4⟩ := h
    exact ⟨b, c, rfl, h2, h3⟩
  | e :: es, b :: bs, x :: xs, h, j + 1, hj => by
    obtain ⟨b', c, h1, h2, h3⟩ := Elems.at h.2.2.2 j (by simpa using hj)
    exact ⟨b', c, by simpa using h1, h2, by simpa [List.getD] using h3⟩
  | [], _, _, _, j, hj => by simp at hj
  | _ :: _, [], _, h, _, _ => h.elim
  | _ :: _, _ :: _, [], h, _, _ => h.elim

theorem log_at {g : Gh} {w : World} {es : List (List Int)} {bs : List Nat} {xs : List Value} {lv : Value} {lo : Nat} (hO : w.ownsRow g.P1 24 1 lv es.length xs) (hE : Elems g w es bs xs) (hlo : lo ≤ g.P1) : LogAt w lo lv es := by
  rcases hO.2 with ⟨rfl, h0⟩ | ⟨b, c, cur, rfl, hb, hh, h1, h2, h3, h4⟩
  · have e : es = [] := List.length_eq_zero_iff.1 h0
    subst e
    exact ⟨none, 0, rfl, .inl rfl⟩
  · refine ⟨some ⟨b, 0, none⟩, c, rfl, .inr ⟨b, rfl, by omega, lt_of_block hh, fun j hj => ?_⟩⟩
    obtain ⟨b', c', k1, k2, k3⟩ := hE.at j hj
    refine ⟨b', c', ?_, by omega, by obtain ⟨t, ht⟩ := k3; exact lt_of_block ht, k3⟩
    simp only [World.cell?, hh]
    rw [← h4, List.getElem?_take] at k1
    simp at k1
    simpa using k1.2

theorem opn_le (st : List Int) : opn st ≤ st.length := List.countP_le_length

theorem grown_below {w w' : World} (h : w.grownBy w' none) : Below w.heap.size w w' := ⟨h.os, h.tape, h.output, h.size, fun k hk => h.block k hk (by simp)⟩

/-- The blocks that are made ahead of the build. -/
def pre4 (w : World) : List Obj := [.cells #[.slice none 0 0] 27, .cells #[.slice none 0 0, .slice none 0 0, .slice none 0 0, .int .i32 (-1)] 37, .cells #[.int .i32 3, .int .i32 3, .int .i32 3, .int .i32 3] 21,
  .cells #[.pointer (some ⟨w.heap.size + 1, 0, none⟩), .slice (some ⟨w.heap.size + 2, 0, none⟩) 4 4, .func (.func 10) #[] #[.pointer (some ⟨w.heap.size, 0, none⟩)], .slice none 0 0] 41]
def gh (w w2 : World) : Gh := ⟨w.heap.size, w.heap.size + 1, w.heap.size + 2, w.heap.size + 3, w.heap.size + 4, w2.heap.size⟩

theorem brun_start {w w2 : World} (hB : Below (allocs w (pre4 w)).heap.size (allocs w (pre4 w)) w2) : Inv (gh w w2) w2 w2 (.slice none 0 0) (-1) [] [] ∧ (allocs w (pre4 w)).heap.size = w.heap.size + 4 ∧ w.heap.size + 4 ≤ w2.heap.size := by
  have hz : (allocs w (pre4 w)).heap.size = w.heap.size + 4 := allocs_size _ _
  have hs : w.heap.size + 4 ≤ w2.heap.size := by rw [← hz]; exact hB.size
  have at' : ∀ j o, (pre4 w)[j]? = some o → w2.heap[w.heap.size + j]? = some o := fun j o hj => by
    have hlt : j < (pre4 w).length := (List.getElem?_eq_some_iff.1 hj).1
    have hlt4 : j < 4 := hlt
    rw [hB.block _ (by rw [hz]; omega), allocs_get _ _ _ hlt, hj]
  refine ⟨⟨?_, Nat.le_refl _, at' 1 _ rfl, ⟨.slice none 0 0, 0, [], at' 3 _ rfl, World.ownsRow_nil _ _ _ _⟩, ⟨.slice none 0 0, [], at' 0 _ rfl, World.ownsRow_nil _ _ _ _, trivial⟩, at' 2 _ rfl, fun _ _ _ => rfl⟩, hz, hs⟩
  unfold Gh.ok gh
  simp only
  omega

theorem brun_end {w w2 w3 : World} {mv : Value} {bl : Int} {es : List (List Int)} {bs : List Nat} {sb : Nat} (hB : Below (allocs w (pre4 w)).heap.size (allocs w (pre4 w)) w2) (hI : Inv (gh w w2) w2 w3 mv bl es bs) (hF : Frm (gh w w2) sb w2 w3) :
    ∃ lv, w3.cell? ⟨w.heap.size, 0, none⟩ = some lv ∧ Hid (LogAt w3 w.heap.size lv es ∧ w.grownBy w3 (some sb)) := by
  obtain ⟨lv, xs, hL, hO, hE⟩ := hI.lg
  have hz : (allocs w (pre4 w)).heap.size = w.heap.size + 4 := allocs_size _ _
  have hg := allocs_grown (pre4 w) w
  have hs2 := hB.size
  refine ⟨lv, (cell_at (k := 0) hL rfl).1, log_at hO hE ?_, ?_⟩
  · show w.heap.size ≤ w2.heap.size
    omega
  · refine ⟨hF.os.trans (hB.os.trans hg.os), hF.tape.trans (hB.tape.trans hg.tape), hF.output.trans (hB.output.trans hg.output), Nat.le_trans (by omega) hF.size, fun k hk hne => ?_⟩
    have hP : k < (gh w w2).P1 := by show k < w2.heap.size; omega
    rw [hF.low k hP (by show k ≠ w.heap.size; omega) (by show k ≠ w.heap.size + 1; omega) (by show k ≠ w.heap.size + 3; omega) (fun e => hne (by rw [e])), hB.block k (by omega), hg.block k hk (by simp)]

set_option maxHeartbeats 800000 in
theorem brun_any (w : World) (sb cap : Nat) (st : List Int) (ao : Option Addr) (n c : Nat) (ops : Nat → O5) (hO : OpsAt w ao n ops) (hn : n ≤ 600) (hS : St w sb st) (hOk : Ok st) :
    Calls Yba.prog 7 #[.slice (some ⟨sb, 0, none⟩) 4 cap, .slice ao n c] w fun e w' => ∃ lv, e = .returned lv ∧ LogAt w' w.heap.size lv (emits ops n st) ∧ w.grownBy w' (some sb) := by
  have HO := hide hO
  have HS := hide hS
  have HK := hide hOk
  have hsb : sb < w.heap.size := by obtain ⟨t, ht⟩ := hS; exact lt_of_block ht
  clear hO hS hOk
  go_enter Yba.func7, Yba.ntmps7
  go_wp2_with fail
  refine (build_all ops n (allocs w (pre4 w)) ao n c 0 n (HO.out.below ((grown_below (allocs_grown (pre4 w) w)))) hn (Nat.zero_le _) (Nat.le_refl _) (Nat.le_refl _)).mono ?_
  rintro e w2 ⟨v, ys, rfl, hSl, hSg, hB⟩
  obtain ⟨hI, hz, hz2⟩ := brun_start hB
  have HI := hide hI
  have HB := hide hB
  rw [hz] at hSl hSg
  have HBody : Hid (Body (gh w w2).P0 (gh w w2).P1 w2 ops v ⟨none, 0, n⟩) := ⟨ys, hSl, n, n, Nat.le_refl _, hSg⟩
  have HS2 : Hid (St w2 sb st) := by
    have h1 := HS.out
    refine h1.other ?_
    rw [hB.block sb (by omega), (allocs_grown (pre4 w) w).block sb hsb (by simp)]
  have h81 : 3 ^ opn st ≤ 81 := by
    have h1 := opn_le st
    rw [HK.out.1] at h1
    exact Nat.pow_le_pow_right (by decide) h1
  have H81 := hide h81
  clear hI hB hz hz2 hSl hSg h81
  go_wp2_with fail
  refine (run_all (gh w w2) w2 ops (mu st [⟨none, 0, n⟩] + 1) w2 _ (-1) [] [] sb cap st v (.pointer none) ⟨none, 0, n⟩ [] HI.out HS2.out ⟨.inl hsb, by simp⟩ HK.out HBody.out rfl ?_ (Nat.lt_succ_self _) ?_ ?_).mono ?_
  · intro f hf c' v' h
    obtain rfl := List.mem_singleton.1 hf
    cases h
  · show wt ⟨none, 0, n⟩ + 0 < 2000
    unfold wt
    simp
    omega
  · have := H81.out; simp; omega
  rintro e w3 ⟨rfl, mv', bl', bs', hI3, _, hF3⟩
  obtain ⟨lv, hlv, HX⟩ := brun_end HB.out (by simpa using hI3) hF3
  clear hI3 hF3
  go_wp2_with fail
  go_ret
  exact ⟨lv, rfl, HX.out.1, HX.out.2⟩
end Go.Proofs.Ybulkbvqe
