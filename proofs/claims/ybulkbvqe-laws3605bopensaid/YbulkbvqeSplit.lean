/-
  WALKS for seat b3605a: split.
-/
import Derived.Test.YbulkbvqeStm
import Derived.Test.YbulkbvqeEmit
namespace Go.Proofs.Ybulkbvqe
open Go.ChangeShapes Go.WideShapes Go.ChangeAt Go.RowKit
set_option linter.unusedVariables false

/-- The settings that are still to run are lawful. -/
def FOk (fs : List Fm) : Prop := ∀ f ∈ fs, ∀ c v, f.els = some (c, v) → c < 4 ∧ 0 ≤ v ∧ v ≤ 2

/-- THE RUNNER's CONTRACT at n steps: it emits what the plain function says. -/
def RunOK (g : Gh) (wp : World) (ops : Nat → O5) (n : Nat) : Prop :=
  ∀ (w : World) (mv : Value) (bl : Int) (es : List (List Int)) (bs : List Nat) (sb cap : Nat) (st : List Int) (bv rv : Value) (f : Fm) (fs : List Fm),
    Inv g wp w mv bl es bs → St w sb st → Free g sb bs → Ok st → Body g.P0 g.P1 wp ops bv f → Conts g wp ops w fs rv → FOk (f :: fs) → mu st (f :: fs) < n → tot (f :: fs) < 2000 → es.length + 3 ^ opn st ≤ 1000 →
    Calls Yba.prog 11 #[.pointer (some ⟨g.rb, 0, none⟩), .slice (some ⟨sb, 0, none⟩) 4 cap, bv, rv] w fun e w' => e = .returned (.tuple #[]) ∧
      ∃ mv' bl' bs', Inv g wp w' mv' bl' (es ++ runP ops n st (f :: fs)) (bs ++ bs') ∧ (∀ b ∈ bs', w.heap.size ≤ b) ∧ Frm g sb w w'

theorem Elems.lt {g : Gh} {w : World} : ∀ {es : List (List Int)} {bs : List Nat} {xs : List Value}, Elems g w es bs xs → ∀ b ∈ bs, b < w.heap.size
  | [], [], [], _, b, hb => by cases hb
  | _ :: _, b' :: bs, _ :: _, h, b, hb => by
    rcases List.mem_cons.1 hb with rfl | hb
    · obtain ⟨tail, ht⟩ := h.2.2.1
      exact lt_of_block ht
    · exact Elems.lt h.2.2.2 b hb
  | [], [], _ :: _, h, _, _ => h.elim
  | [], _ :: _, _, h, _, _ => h.elim
  | _ :: _, [], _, h, _, _ => h.elim
  | _ :: _, _ :: _, [], h, _, _ => h.elim

theorem Inv.lt {g : Gh} {wp w : World} {mv : Value} {bl : Int} {es : List (List Int)} {bs : List Nat} (h : Inv g wp w mv bl es bs) : ∀ b ∈ bs, b < w.heap.size := by
  obtain ⟨lv, xs, _, _, hE⟩ := h.lg
  exact hE.lt

/-- Another state is as it was behind a run. -/
theorem St.frm {g : Gh} {w w' : World} {sb sb' : Nat} {st : List Int} (hs : St w sb st) (hF : Frm g sb' w w') (hne : sb ≠ sb') (hf : sb < g.lb ∨ g.P1 ≤ sb) (ho : g.ok) : St w' sb st := by
  obtain ⟨o1, o2, o3, o4, o5⟩ := ho
  obtain ⟨tail, ht⟩ := hs
  refine ⟨tail, ?_⟩
  rcases hf with hf | hf
  · exact (hF.low sb (by omega) (by omega) (by omega) (by omega) hne).trans ht
  · exact hF.cold sb _ 21 _ hf hne ht (by decide) (by decide)

/-- A fresh copy of the state, its cell r set to v, and what a run from it leaves: one turn of split's loop. -/
theorem split_turn {g : Gh} {wp w w1 w2 : World} {mv : Value} {bl : Int} {es : List (List Int)} {bs bs' : List Nat} {sb b1 r : Nat} {v : Int} {st : List Int}
    (hI : Inv g wp w mv bl es bs) (hS : St w sb st) (hf : sb < g.lb ∨ g.P1 ≤ sb) (hg : w.grownBy w1 none) (hb1 : w.heap.size ≤ b1)
    (hF : Frm g b1 (w1.setCell ⟨b1, r, none⟩ (.int .i32 v)) w2) (hbs : ∀ b ∈ bs', (w1.setCell ⟨b1, r, none⟩ (.int .i32 v)).heap.size ≤ b) :
    Frm g sb w w2 ∧ St w2 sb st ∧ (∀ b ∈ bs', w.heap.size ≤ b) ∧ w.heap.size ≤ w2.heap.size := by
  have hz := hI.sz
  have hlt : sb < w.heap.size := by obtain ⟨tail, ht⟩ := hS; exact lt_of_block ht
  have h1 : Frm g sb w w1 := Frm.grown hg hz
  have h2 : Frm g b1 w1 (w1.setCell ⟨b1, r, none⟩ (.int .i32 v)) := Frm.setCell (.inl rfl) hI.ok
  have h3 : Frm g sb w w2 := (h1.trans h2 hz (.inr hb1)).trans hF hz (.inr hb1)
  refine ⟨h3, ?_, fun b hb => ?_, h3.size⟩
  · have e1 : St w1 sb st := hS.other (hg.block sb hlt (by simp))
    have e2 : St (w1.setCell ⟨b1, r, none⟩ (.int .i32 v)) sb st := e1.other (Below.heap_setCell _ _ _ _ (by simp; omega))
    exact e2.frm hF (by omega) hf hI.ok
  · have e1 := hbs b hb
    have e2 := hg.size
    rw [show (w1.setCell ⟨b1, r, none⟩ (.int .i32 v)).heap.size = w1.heap.size by simp [World.setCell]] at e1
    exact Nat.le_trans e2 e1

theorem mu_set {st : List Int} {fs : List Fm} {n r : Nat} {v : Int} (hr : r < st.length) (ho : st.getD r 0 = -1) (hv : v ≠ -1) (h : mu st fs < n + 1) : mu (st.set r v) fs < n ∧ 3 * 3 ^ opn (st.set r v) = 3 ^ opn st := by
  have e := opn_set_lt st r v hv hr ho
  refine ⟨?_, ?_⟩
  · unfold mu at h ⊢
    have h1 : opn st * 2000 = opn (st.set r v) * 2000 + 2000 := by rw [← e, Nat.add_mul, Nat.one_mul]
    rw [h1] at h
    exact Nat.lt_of_add_lt_add_right (n := 1) (Nat.lt_of_le_of_lt (by rw [Nat.add_right_comm]; exact Nat.add_le_add_right (Nat.add_le_add_left (by decide) _) _) h)
  · rw [← e, Nat.pow_succ, Nat.mul_comm]

theorem stuck_some {o : O5} {st : List Int} {r : Nat} (h : stuck o st = some r) : r < 4 ∧ st.getD r 0 = -1 := by
  unfold stuck at h
  have hr : (if kd o = 1 ∨ kd o = 3 then cB o else cA o) < 4 := by
    by_cases hk : kd o = 1 ∨ kd o = 3
    · rw [if_pos hk]; exact cB_lt o
    · rw [if_neg hk]; exact cA_lt o
  generalize (if kd o = 1 ∨ kd o = 3 then cB o else cA o) = q at h hr
  by_cases h0 : kd o = 0
  · rw [if_pos h0] at h; cases h
  · rw [if_neg h0] at h
    by_cases h1 : st.getD q 0 = -1
    · rw [if_pos h1] at h
      cases h
      exact ⟨hr, h1⟩
    · rw [if_neg h1] at h; cases h

theorem runP_len (ops : Nat → O5) : ∀ (n : Nat) (st : List Int) (fs : List Fm), Ok st → FOk fs → (runP ops n st fs).length ≤ 3 ^ opn st := by
  intro n
  induction n with
  | zero => intro st fs _ _; simp [runP]
  | succ n ih =>
    intro st fs hO hE
    have hp : 0 < 3 ^ opn st := Nat.pow_pos (by decide)
    cases fs with
    | nil => simp [runP]; omega
    | cons f fs =>
      have hE' : FOk fs := fun f' hf => hE f' (List.mem_cons_of_mem _ hf)
      have hEn : ∀ (i hi : Nat), FOk ((⟨none, i, hi⟩ : Fm) :: fs) := by
        intro i hi f' hf c v he
        rcases List.mem_cons.1 hf with rfl | hf
        · cases he
        · exact hE' f' hf c v he
      rw [runP]
      split
      · rename_i c v hv
        have hb := hE f (by simp) c v hv
        exact Nat.le_trans (ih _ _ (hO.set c v (by omega)) (hEn 0 0)) (Nat.pow_le_pow_right (by decide) (opn_set_le st c v (by omega)))
      · rename_i hv
        split
        · exact ih _ _ hO hE'
        · split
          · rename_i r hr
            obtain ⟨h1, h2⟩ := stuck_some hr
            have hl : r < st.length := by rw [hO.1]; exact h1
            have q0 := ih (st.set r 0) (f :: fs) (hO.set r 0 (by decide)) hE
            have q1 := ih (st.set r 1) (f :: fs) (hO.set r 1 (by decide)) hE
            have q2 := ih (st.set r 2) (f :: fs) (hO.set r 2 (by decide)) hE
            have e0 := opn_set_lt st r 0 (by decide) hl h2
            have e1 := opn_set_lt st r 1 (by decide) hl h2
            have e2 := opn_set_lt st r 2 (by decide) hl h2
            rw [List.length_append, List.length_append, ← e0, Nat.pow_succ]
            rw [show opn (st.set r 1) = opn (st.set r 0) by omega] at q1
            rw [show opn (st.set r 2) = opn (st.set r 0) by omega] at q2
            omega
          · rename_i hs
            split
            · split
              · refine ih _ _ hO ?_
                intro f' hf c v he
                rcases List.mem_cons.1 hf with rfl | hf
                · cases he
                · exact hEn _ _ f' hf c v he
              · refine ih _ _ hO ?_
                intro f' hf c v he
                rcases List.mem_cons.1 hf with rfl | hf
                · have := vl_bd (ops f.i)
                  simp only [Option.some.injEq, Prod.mk.injEq] at he
                  have := cB_lt (ops f.i)
                  omega
                · exact hEn _ _ f' hf c v he
            · split
              · simp
              · rename_i s ha
                obtain ⟨a1, a2⟩ := act_ok hO ha hs
                exact Nat.le_trans (ih _ _ a1 (hEn _ _)) (Nat.pow_le_pow_right (by decide) a2)

set_option maxHeartbeats 1000000 in
theorem split_any (g : Gh) (wp : World) (ops : Nat → O5) (n : Nat) (HRn : RunOK g wp ops n) (w : World) (mv : Value) (es : List (List Int)) (bs : List Nat) (sb cap r : Nat) (st : List Int) (bv rv : Value) (f : Fm) (fs : List Fm)
    (hI : Inv g wp w mv r es bs) (hS : St w sb st) (hF : sb < g.lb ∨ g.P1 ≤ sb) (hO : Ok st) (hE : FOk (f :: fs)) (hB : Body g.P0 g.P1 wp ops bv f) (hC : Conts g wp ops w fs rv) (hr : r < 4) (ho : st.getD r 0 = -1) (hM : mu st (f :: fs) < n + 1) (hT : tot (f :: fs) < 2000) (hL : es.length + 3 ^ opn st ≤ 1000) :
    Calls Yba.prog 14 #[.pointer (some ⟨g.rb, 0, none⟩), .slice (some ⟨sb, 0, none⟩) 4 cap, bv, rv] w fun e w' => e = .returned (.tuple #[]) ∧
      ∃ mv' bl' bs', Inv g wp w' mv' bl' (es ++ (runP ops n (st.set r 0) (f :: fs) ++ (runP ops n (st.set r 1) (f :: fs) ++ runP ops n (st.set r 2) (f :: fs)))) (bs ++ bs') ∧ (∀ b ∈ bs', w.heap.size ≤ b) ∧ Frm g sb w w' := by
  obtain ⟨i1, i2, i3, i4, i5, i6, i7, i8, i9⟩ := hI.cells
  have d1 := i9 r hr
  have hri : (r : Int) < 4 := by omega
  have HI0 := hide hI
  have HS0 := hide hS
  have HC0 := hide hC
  have HOp := hide ho
  have HMu := hide hM
  have HR := hide HRn
  clear hI hS hC ho hM HRn i1 i2 i4 i5 i8 i9
  go_enter Yba.func14, Yba.ntmps14
  go_wp2_with fail
  refine wp_loop_rounds 4 ?_
  clear i3 i6 i7 d1
  rw [rounds_succ]
  go_wp2_with fail
  refine (clone4 sb cap st _ hO.1 HS0.out).mono ?_
  rintro e w1 ⟨b0, c0, rfl, hb0, hs0, hg0⟩
  obtain ⟨kc0, kf0⟩ := hs0.cell r (by rw [hO.1]; exact hr)
  have HX0 := hide (And.intro hb0 (And.intro hs0 hg0))
  clear hb0 hs0 hg0
  go_wp2_with fail
  obtain ⟨mu0, po0⟩ := mu_set (v := 0) (by rw [hO.1]; exact hr) HOp.out (by decide) HMu.out
  refine (HR.out _ _ _ _ _ b0 c0 (st.set r 0) bv rv f fs ((HI0.out.grown HX0.out.2.2).store HX0.out.2.1 ⟨.inr (Nat.le_trans HI0.out.sz HX0.out.1), fun h => by have := HI0.out.lt _ h; have := HX0.out.1; omega⟩ r (.int .i32 0)) (HX0.out.2.1.store r (by rw [hO.1]; exact hr) 0) ⟨.inr (Nat.le_trans HI0.out.sz HX0.out.1), fun h => by have := HI0.out.lt _ h; have := HX0.out.1; omega⟩ (hO.set r 0 (by decide)) hB (HC0.out.carried fun k cs hk hh => ?_) hE mu0 hT ?_).mono ?_
  · rw [Below.heap_setCell _ _ _ _ (by have := lt_of_block hh; have := HX0.out.1; simp; omega), HX0.out.2.2.block k (lt_of_block hh) (by simp)]
    exact hh
  · omega
  rintro e w2 ⟨rfl, mv0, bl0, ns0, hi0, hn0, hf0⟩
  obtain ⟨tf0, ts0, tn0, tz0⟩ := split_turn HI0.out HS0.out hF HX0.out.2.2 HX0.out.1 hf0 hn0
  have HI1 := hide hi0
  have HS1 := hide ts0
  have HC1 := hide (HC0.out.frm HS0.out tf0)
  have HT0 := hide (And.intro tf0 tn0)
  clear hi0 ts0 tf0 tn0 hn0 hf0 kc0 kf0 mu0 HX0
  go_wp2_with fail
  rw [rounds_succ]
  go_wp2_with fail
  refine (clone4 sb cap st _ hO.1 HS1.out).mono ?_
  rintro e w3 ⟨b1, c1, rfl, hb1, hs1, hg1⟩
  obtain ⟨kc1, kf1⟩ := hs1.cell r (by rw [hO.1]; exact hr)
  have HX1 := hide (And.intro hb1 (And.intro hs1 hg1))
  clear hb1 hs1 hg1
  go_wp2_with fail
  obtain ⟨mu1, po1⟩ := mu_set (v := 1) (by rw [hO.1]; exact hr) HOp.out (by decide) HMu.out
  refine (HR.out _ _ _ _ _ b1 c1 (st.set r 1) bv rv f fs ((HI1.out.grown HX1.out.2.2).store HX1.out.2.1 ⟨.inr (Nat.le_trans HI1.out.sz HX1.out.1), fun h => by have := HI1.out.lt _ h; have := HX1.out.1; omega⟩ r (.int .i32 1)) (HX1.out.2.1.store r (by rw [hO.1]; exact hr) 1) ⟨.inr (Nat.le_trans HI1.out.sz HX1.out.1), fun h => by have := HI1.out.lt _ h; have := HX1.out.1; omega⟩ (hO.set r 1 (by decide)) hB (HC1.out.carried fun k cs hk hh => ?_) hE mu1 hT ?_).mono ?_
  · rw [Below.heap_setCell _ _ _ _ (by have := lt_of_block hh; have := HX1.out.1; simp; omega), HX1.out.2.2.block k (lt_of_block hh) (by simp)]
    exact hh
  · have e0 := runP_len ops n (st.set r 0) (f :: fs) (hO.set r 0 (by decide)) hE; rw [List.length_append]; omega
  rintro e w4 ⟨rfl, mv1, bl1, ns1, hi1, hn1, hf1⟩
  obtain ⟨tf1, ts1, tn1, tz1⟩ := split_turn HI1.out HS1.out hF HX1.out.2.2 HX1.out.1 hf1 hn1
  have HI2 := hide hi1
  have HS2 := hide ts1
  have HC2 := hide (HC1.out.frm HS1.out tf1)
  have HT1 := hide (And.intro tf1 tn1)
  clear hi1 ts1 tf1 tn1 hn1 hf1 kc1 kf1 mu1 HX1
  go_wp2_with fail
  rw [rounds_succ]
  go_wp2_with fail
  refine (clone4 sb cap st _ hO.1 HS2.out).mono ?_
  rintro e w5 ⟨b2, c2, rfl, hb2, hs2, hg2⟩
  obtain ⟨kc2, kf2⟩ := hs2.cell r (by rw [hO.1]; exact hr)
  have HX2 := hide (And.intro hb2 (And.intro hs2 hg2))
  clear hb2 hs2 hg2
  go_wp2_with fail
  obtain ⟨mu2, po2⟩ := mu_set (v := 2) (by rw [hO.1]; exact hr) HOp.out (by decide) HMu.out
  refine (HR.out _ _ _ _ _ b2 c2 (st.set r 2) bv rv f fs ((HI2.out.grown HX2.out.2.2).store HX2.out.2.1 ⟨.inr (Nat.le_trans HI2.out.sz HX2.out.1), fun h => by have := HI2.out.lt _ h; have := HX2.out.1; omega⟩ r (.int .i32 2)) (HX2.out.2.1.store r (by rw [hO.1]; exact hr) 2) ⟨.inr (Nat.le_trans HI2.out.sz HX2.out.1), fun h => by have := HI2.out.lt _ h; have := HX2.out.1; omega⟩ (hO.set r 2 (by decide)) hB (HC2.out.carried fun k cs hk hh => ?_) hE mu2 hT ?_).mono ?_
  · rw [Below.heap_setCell _ _ _ _ (by have := lt_of_block hh; have := HX2.out.1; simp; omega), HX2.out.2.2.block k (lt_of_block hh) (by simp)]
    exact hh
  · have e0 := runP_len ops n (st.set r 0) (f :: fs) (hO.set r 0 (by decide)) hE; have e1 := runP_len ops n (st.set r 1) (f :: fs) (hO.set r 1 (by decide)) hE; rw [List.length_append, List.length_append]; omega
  rintro e w6 ⟨rfl, mv2, bl2, ns2, hi2, hn2, hf2⟩
  obtain ⟨tf2, ts2, tn2, tz2⟩ := split_turn HI2.out HS2.out hF HX2.out.2.2 HX2.out.1 hf2 hn2
  have HI3 := hide hi2
  have HS3 := hide ts2
  have HC3 := hide (HC2.out.frm HS2.out tf2)
  have HT2 := hide (And.intro tf2 tn2)
  clear hi2 ts2 tf2 tn2 hn2 hf2 kc2 kf2 mu2 HX2
  go_wp2_with fail
  rw [rounds_succ]
  go_wp2_with fail
  go_end0
  refine ⟨rfl, mv2, bl2, ns0 ++ (ns1 ++ ns2), ?_, ?_, (HT0.out.1.trans HT1.out.1 HI0.out.sz (.inl rfl)).trans HT2.out.1 HI0.out.sz (.inl rfl)⟩
  · have := HI3.out
    rwa [List.append_assoc, List.append_assoc, List.append_assoc, List.append_assoc] at this
  · intro b hb
    rcases List.mem_append.1 hb with hb | hb
    · exact HT0.out.2 b hb
    · rcases List.mem_append.1 hb with hb | hb
      · exact Nat.le_trans tz0 (HT1.out.2 b hb)
      · exact Nat.le_trans (Nat.le_trans tz0 tz1) (HT2.out.2 b hb)
end Go.Proofs.Ybulkbvqe
