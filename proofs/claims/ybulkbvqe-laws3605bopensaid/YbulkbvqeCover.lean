/-
  SEAT b3605a: THE PLAIN LAWS: what the runner emits, against the model.
-/
import Derived.Test.YbulkbvqeExec
import Derived.Test.YbulkbvqeRunParts
namespace Go.Proofs.Ybulkbvqe
set_option linter.unusedVariables false

/-- The model on a block that is still to run, and on all of them. -/
def exFm (ops : Nat → O5) (f : Fm) (st : List Int) : Option (List Int) :=
  match f.els with
  | some (c, v) => some (st.set c v)
  | none => ex ops f.i f.hi st
def exFs (ops : Nat → O5) : List Fm → List Int → Option (List Int)
  | [], st => some st
  | f :: fs, st => (exFm ops f st).bind (exFs ops fs)

/-- x is a completion of st: closed, and as st is where st is closed. -/
structure Comp (x st : List Int) : Prop where
  len : x.length = 4
  bd : ∀ v ∈ x, 0 ≤ v ∧ v ≤ 2
  eq : ∀ k, k < 4 → st.getD k 0 ≠ -1 → x.getD k 0 = st.getD k 0

theorem getD_set {l : List Int} {c k : Nat} {v : Int} (hc : c < l.length) : (l.set c v).getD k 0 = if k = c then v else l.getD k 0 := by
  by_cases h : k = c
  · subst h; simp [List.getD, hc]
  · rw [if_neg h]; simp [List.getD, Ne.symm h]

theorem Comp.set {x st : List Int} (h : Comp x st) (hl : st.length = 4) {c : Nat} {v : Int} (hc : c < 4) (hv : 0 ≤ v ∧ v ≤ 2) : Comp (x.set c v) (st.set c v) := by
  refine ⟨by simp [h.len], fun u hu => ?_, fun k hk hne => ?_⟩
  · rcases List.mem_or_eq_of_mem_set hu with hu | rfl
    · exact h.bd u hu
    · exact hv
  · rw [getD_set (by rw [h.len]; exact hc)]
    rw [getD_set (by rw [hl]; exact hc)] at hne ⊢
    split
    · rfl
    · rename_i hkc
      rw [if_neg hkc] at hne
      exact h.eq k hk hne

theorem Comp.get {x st : List Int} (h : Comp x st) (k : Nat) (hk : k < 4) : 0 ≤ x.getD k 0 ∧ x.getD k 0 ≤ 2 := by
  have hl : k < x.length := by rw [h.len]; exact hk
  have e : x.getD k 0 = x[k] := by simp [List.getD, hl]
  rw [e]
  exact h.bd _ (List.getElem_mem hl)

theorem list_ext4 {a b : List Int} (ha : a.length = 4) (hb : b.length = 4) (h : ∀ k, k < 4 → a.getD k 0 = b.getD k 0) : a = b := by
  refine List.ext_getElem (by rw [ha, hb]) fun i h1 h2 => ?_
  have e := h i (by omega)
  simpa [List.getD, h1, h2] using e

/-- What an operation writes. -/
theorem act_comp {o : O5} {st s x : List Int} (hO : Ok st) (hs : stuck o st = none) (hx : Comp x st) :
    (act o st = none → kd o ≠ 4 → act o x = none) ∧ (act o st = some s → kd o ≠ 4 → ∃ y, act o x = some y ∧ Comp y s) := by
  have hA := cA_lt o
  have hB := cB_lt o
  have hv := vl_bd o
  have hk := kd_lt o
  obtain k | k | k | k | k | k : kd o = 0 ∨ kd o = 1 ∨ kd o = 2 ∨ kd o = 3 ∨ kd o = 4 ∨ kd o = 5 := by omega
  · refine ⟨fun h _ => ?_, fun h _ => ?_⟩
    · rw [(act0 k).1] at h; cases h
    · rw [(act0 k).1] at h; cases h
      exact ⟨_, (act0 k).1, hx.set hO.1 hA hv⟩
  · have hne : ¬ st.getD (cB o) 0 = -1 := fun h => by rw [(stuck_b (.inl k)).1 h] at hs; cases hs
    have e := hx.eq _ hB hne
    refine ⟨fun h _ => ?_, fun h _ => ?_⟩
    · rw [act1 k] at h; cases h
    · rw [act1 k] at h; cases h
      refine ⟨_, act1 k, ?_⟩
      rw [e]
      exact hx.set hO.1 hA (by have := hx.get _ hB; omega)
  · have hne : ¬ st.getD (cA o) 0 = -1 := fun h => by rw [(stuck_a (.inl k)).1 h] at hs; cases hs
    have e := hx.eq _ hA hne
    refine ⟨fun h _ => ?_, fun h _ => ?_⟩
    · rw [act2 k] at h ⊢
      rw [e]
      split at h
      · cases h
      · rename_i hh; rw [if_neg hh]
    · rw [act2 k] at h
      split at h
      · rename_i hh; cases h
        exact ⟨x, by rw [act2 k, e, if_pos hh], hx⟩
      · cases h
  · have hne : ¬ st.getD (cB o) 0 = -1 := fun h => by rw [(stuck_b (.inr k)).1 h] at hs; cases hs
    have e := hx.eq _ hB hne
    refine ⟨fun h _ => ?_, fun h _ => ?_⟩
    · rw [act3 k] at h; cases h
    · rw [act3 k] at h; cases h
      refine ⟨_, act3 k, ?_⟩
      rw [e]
      exact hx.set hO.1 hA (by split <;> omega)
  · exact ⟨fun _ h => (h k).elim, fun _ h => (h k).elim⟩
  · have hne : ¬ st.getD (cA o) 0 = -1 := fun h => by rw [(stuck_a (.inr (.inr k))).1 h] at hs; cases hs
    have e := hx.eq _ hA hne
    refine ⟨fun h _ => ?_, fun h _ => ?_⟩
    · rw [act5 k] at h ⊢
      rw [e]
      split at h
      · rename_i hh; rw [if_pos hh]
      · cases h
    · rw [act5 k] at h
      split at h
      · cases h
      · rename_i hh; cases h
        exact ⟨x, by rw [act5 k, e, if_neg hh], hx⟩

/-- Back over a setting. -/
theorem Comp.back {st y : List Int} {c : Nat} {v : Int} (hO : Ok st) (hc : c < 4) (hv : 0 ≤ v ∧ v ≤ 2) (hy : Comp y (st.set c v)) : ∃ x, Comp x st ∧ x.set c v = y := by
  have hl := hO.1
  have hcl : c < st.length := by omega
  have hyl := hy.len
  refine ⟨y.set c (if st.getD c 0 = -1 then 0 else st.getD c 0), ⟨by simp [hyl], fun u hu => ?_, fun k hk hne => ?_⟩, ?_⟩
  · rcases List.mem_or_eq_of_mem_set hu with hu | rfl
    · exact hy.bd u hu
    · have := hO.get c hc
      split <;> omega
  · rw [getD_set (by omega)]
    split
    · rename_i hkc; subst hkc; rw [if_neg hne]
    · rename_i hkc
      have e := hy.eq k hk (by rw [getD_set hcl, if_neg hkc]; exact hne)
      rw [e, getD_set hcl, if_neg hkc]
  · refine list_ext4 (by simp [hyl]) hyl fun k hk => ?_
    rw [getD_set (by simp; omega), getD_set (by omega)]
    split
    · rename_i hkc
      subst hkc
      have e := hy.eq k hk (by rw [getD_set hcl, if_pos rfl]; omega)
      rw [e, getD_set hcl, if_pos rfl]
    · rfl

theorem act_back {o : O5} {st s y : List Int} (hO : Ok st) (hs : stuck o st = none) (hk4 : kd o ≠ 4) (ha : act o st = some s) (hy : Comp y s) : ∃ x, Comp x st ∧ act o x = some y := by
  have hA := cA_lt o
  have hB := cB_lt o
  have hv := vl_bd o
  have hk := kd_lt o
  obtain k | k | k | k | k : kd o = 0 ∨ kd o = 1 ∨ kd o = 2 ∨ kd o = 3 ∨ kd o = 5 := by omega
  · rw [(act0 k).1] at ha; cases ha
    obtain ⟨x, hx, e⟩ := hy.back hO hA hv
    exact ⟨x, hx, by rw [(act0 k).1, e]⟩
  · have hne : ¬ st.getD (cB o) 0 = -1 := fun h => by rw [(stuck_b (.inl k)).1 h] at hs; cases hs
    rw [act1 k] at ha; cases ha
    obtain ⟨x, hx, e⟩ := hy.back hO hA (by have := hO.get _ hB; omega)
    exact ⟨x, hx, by rw [act1 k, hx.eq _ hB hne, e]⟩
  · have hne : ¬ st.getD (cA o) 0 = -1 := fun h => by rw [(stuck_a (.inl k)).1 h] at hs; cases hs
    rw [act2 k] at ha
    split at ha
    · rename_i hh; cases ha
      exact ⟨y, hy, by rw [act2 k, hy.eq _ hA hne, if_pos hh]⟩
    · cases ha
  · have hne : ¬ st.getD (cB o) 0 = -1 := fun h => by rw [(stuck_b (.inr k)).1 h] at hs; cases hs
    rw [act3 k] at ha; cases ha
    obtain ⟨x, hx, e⟩ := hy.back hO hA (by split <;> omega)
    exact ⟨x, hx, by rw [act3 k, hx.eq _ hB hne, e]⟩
  · have hne : ¬ st.getD (cA o) 0 = -1 := fun h => by rw [(stuck_a (.inr (.inr k))).1 h] at hs; cases hs
    rw [act5 k] at ha
    split at ha
    · cases ha
    · rename_i hh; cases ha
      exact ⟨y, hy, by rw [act5 k, hy.eq _ hA hne, if_neg hh]⟩

/-- The model over an if. -/
theorem exFs_then {ops : Nat → O5} {f : Fm} {fs : List Fm} {x : List Int} (he : f.els = none) (hi : f.i < f.hi) (hk : kd (ops f.i) = 4) (hv : x.getD (cA (ops f.i)) 0 = vl (ops f.i)) :
    exFs ops (f :: fs) x = exFs ops (⟨none, f.i + 1, f.i + 1 + ln (ops f.i) f.i f.hi⟩ :: ⟨none, f.i + 1 + ln (ops f.i) f.i f.hi, f.hi⟩ :: fs) x := by
  simp only [exFs, exFm, he]
  rw [ex_then hi hk hv, Option.bind_assoc]
theorem exFs_else {ops : Nat → O5} {f : Fm} {fs : List Fm} {x : List Int} (he : f.els = none) (hi : f.i < f.hi) (hk : kd (ops f.i) = 4) (hv : ¬ x.getD (cA (ops f.i)) 0 = vl (ops f.i)) :
    exFs ops (f :: fs) x = exFs ops (⟨some (cB (ops f.i), (vl (ops f.i) + 1) % 3), 0, 0⟩ :: ⟨none, f.i + 1 + ln (ops f.i) f.i f.hi, f.hi⟩ :: fs) x := by
  simp only [exFs, exFm, he]
  rw [ex_else hi hk hv]
  rfl
theorem exFs_op {ops : Nat → O5} {f : Fm} {fs : List Fm} {x y : List Int} (he : f.els = none) (hi : f.i < f.hi) (hk : ¬ kd (ops f.i) = 4) (ha : act (ops f.i) x = some y) : exFs ops (f :: fs) x = exFs ops (⟨none, f.i + 1, f.hi⟩ :: fs) y := by
  simp only [exFs, exFm, he]
  rw [ex_op hi hk ha]
theorem exFs_fail {ops : Nat → O5} {f : Fm} {fs : List Fm} {x : List Int} (he : f.els = none) (hi : f.i < f.hi) (hk : ¬ kd (ops f.i) = 4) (ha : act (ops f.i) x = none) : exFs ops (f :: fs) x = none := by
  simp only [exFs, exFm, he]
  rw [ex_fail hi hk ha]
  rfl
theorem exFs_els {ops : Nat → O5} {f : Fm} {fs : List Fm} {x : List Int} {c : Nat} {v : Int} (he : f.els = some (c, v)) : exFs ops (f :: fs) x = exFs ops (⟨none, 0, 0⟩ :: fs) (x.set c v) := by
  simp only [exFs, exFm, he]
  rw [ex_done (Nat.le_refl _)]
theorem exFs_done {ops : Nat → O5} {f : Fm} {fs : List Fm} {x : List Int} (he : f.els = none) (hi : f.hi ≤ f.i) : exFs ops (f :: fs) x = exFs ops fs x := by
  simp only [exFs, exFm, he]
  rw [ex_done hi]
  rfl

/-- The law of a run. -/
structure Cov (ops : Nat → O5) (st : List Int) (fs : List Fm) (R : List (List Int)) : Prop where
  shut : ∀ e ∈ R, Ok e ∧ ∀ k, k < 4 → e.getD k 0 = -1 → st.getD k 0 = -1
  all : ∀ x y, Comp x st → exFs ops fs x = some y → ∃ e ∈ R, Comp y e
  each : ∀ e ∈ R, ∃ x y, Comp x st ∧ exFs ops fs x = some y ∧ Comp y e

theorem wt_then {f : Fm} {ops : Nat → O5} (he : f.els = none) (hi : f.i < f.hi) : wt ⟨none, f.i + 1, f.i + 1 + ln (ops f.i) f.i f.hi⟩ + wt ⟨none, f.i + 1 + ln (ops f.i) f.i f.hi, f.hi⟩ < wt f := by
  have := ln_le (ops f.i) f.i f.hi
  unfold wt; simp [he]; omega
theorem wt_else {f : Fm} {ops : Nat → O5} (he : f.els = none) (hi : f.i < f.hi) (p : Nat × Int) : wt ⟨some p, 0, 0⟩ + wt ⟨none, f.i + 1 + ln (ops f.i) f.i f.hi, f.hi⟩ < wt f := by
  have := ln_le (ops f.i) f.i f.hi
  unfold wt; simp [he]; omega
theorem mu_two {st : List Int} {f f1 f2 : Fm} {fs : List Fm} {m : Nat} (hw : wt f1 + wt f2 < wt f) (h : mu st (f :: fs) < m + 1) : mu st (f1 :: f2 :: fs) < m := by
  unfold mu at h ⊢
  simp only [tot] at h ⊢
  rw [← Nat.add_assoc (wt f1)]
  have h2 : opn st * 2000 + (wt f1 + wt f2 + tot fs) < opn st * 2000 + (wt f + tot fs) := Nat.add_lt_add_left (Nat.add_lt_add_right hw _) _
  exact Nat.lt_of_lt_of_le h2 (Nat.le_of_lt_succ h)
theorem mu_pop {st : List Int} {f : Fm} {fs : List Fm} {m : Nat} (h : mu st (f :: fs) < m + 1) : mu st fs < m := by
  unfold mu at h ⊢
  simp only [tot] at h
  have hw : 1 ≤ wt f := by unfold wt; omega
  rw [← Nat.add_assoc, Nat.add_right_comm] at h
  exact Nat.lt_of_succ_lt_succ (Nat.lt_of_le_of_lt (Nat.add_le_add_left hw _) h)
theorem fok_tail {f : Fm} {fs : List Fm} (h : FOk (f :: fs)) : FOk fs := fun f' hf => h f' (List.mem_cons_of_mem _ hf)
theorem fok_cons {f : Fm} {fs : List Fm} (he : f.els = none) (h : FOk fs) : FOk (f :: fs) := fun f' hf c v hv => by
  rcases List.mem_cons.1 hf with rfl | hf
  · rw [he] at hv; cases hv
  · exact h f' hf c v hv

/-- One of three. -/
theorem split_cov {ops : Nat → O5} {st : List Int} {fs : List Fm} {r : Nat} {R0 R1 R2 : List (List Int)} (hO : Ok st) (hr : r < 4) (ho : st.getD r 0 = -1) (h0 : Cov ops (st.set r 0) fs R0) (h1 : Cov ops (st.set r 1) fs R1) (h2 : Cov ops (st.set r 2) fs R2) : Cov ops st fs (R0 ++ (R1 ++ R2)) := by
  have hrl : r < st.length := by rw [hO.1]; exact hr
  have up : ∀ v, v ≠ -1 → ∀ k, (st.set r v).getD k 0 = -1 → st.getD k 0 = -1 := fun v hv k h => by
    rw [getD_set hrl] at h
    split at h
    · exact (hv h).elim
    · exact h
  have cu : ∀ v x, v ≠ -1 → Comp x (st.set r v) → Comp x st := fun v x hv h => ⟨h.len, h.bd, fun k hk hne => by
    have hkr : ¬ k = r := fun e => hne (by rw [e]; exact ho)
    have e := h.eq k hk (by rw [getD_set hrl, if_neg hkr]; exact hne)
    rw [e, getD_set hrl, if_neg hkr]⟩
  have cd : ∀ x, Comp x st → ∀ v, x.getD r 0 = v → Comp x (st.set r v) := fun x h v hv => ⟨h.len, h.bd, fun k hk hne => by
    rw [getD_set hrl] at hne ⊢
    split
    · rename_i hkr; rw [hkr]; exact hv
    · rename_i hkr; rw [if_neg hkr] at hne; exact h.eq k hk hne⟩
  refine ⟨fun e he => ?_, fun x y hx hy => ?_, fun e he => ?_⟩
  · rcases List.mem_append.1 he with he | he
    · exact ⟨(h0.shut e he).1, fun k hk h => up 0 (by decide) k ((h0.shut e he).2 k hk h)⟩
    · rcases List.mem_append.1 he with he | he
      · exact ⟨(h1.shut e he).1, fun k hk h => up 1 (by decide) k ((h1.shut e he).2 k hk h)⟩
      · exact ⟨(h2.shut e he).1, fun k hk h => up 2 (by decide) k ((h2.shut e he).2 k hk h)⟩
  · obtain hv | hv | hv : x.getD r 0 = 0 ∨ x.getD r 0 = 1 ∨ x.getD r 0 = 2 := by have := hx.get r hr; omega
    · obtain ⟨e, he, hc⟩ := h0.all x y (cd x hx 0 hv) hy
      exact ⟨e, List.mem_append_left _ he, hc⟩
    · obtain ⟨e, he, hc⟩ := h1.all x y (cd x hx 1 hv) hy
      exact ⟨e, List.mem_append_right _ (List.mem_append_left _ he), hc⟩
    · obtain ⟨e, he, hc⟩ := h2.all x y (cd x hx 2 hv) hy
      exact ⟨e, List.mem_append_right _ (List.mem_append_right _ he), hc⟩
  · rcases List.mem_append.1 he with he | he
    · obtain ⟨x, y, hx, hy, hc⟩ := h0.each e he
      exact ⟨x, y, cu 0 x (by decide) hx, hy, hc⟩
    · rcases List.mem_append.1 he with he | he
      · obtain ⟨x, y, hx, hy, hc⟩ := h1.each e he
        exact ⟨x, y, cu 1 x (by decide) hx, hy, hc⟩
      · obtain ⟨x, y, hx, hy, hc⟩ := h2.each e he
        exact ⟨x, y, cu 2 x (by decide) hx, hy, hc⟩

/-- Over a setting, forth and back. -/
theorem set_cov {ops : Nat → O5} {st s : List Int} {fs fs' : List Fm} {R : List (List Int)} (hO : Ok st) (hop : ∀ k, k < 4 → s.getD k 0 = -1 → st.getD k 0 = -1)
    (hf : ∀ x, Comp x st → ∃ y, Comp y s ∧ exFs ops fs' x = exFs ops fs y) (hb : ∀ y, Comp y s → ∃ x, Comp x st ∧ exFs ops fs' x = exFs ops fs y) (h : Cov ops s fs R) : Cov ops st fs' R := by
  refine ⟨fun e he => ⟨(h.shut e he).1, fun k hk hh => hop k hk ((h.shut e he).2 k hk hh)⟩, fun x y hx hy => ?_, fun e he => ?_⟩
  · obtain ⟨x', hx', e'⟩ := hf x hx
    exact h.all x' y hx' (e' ▸ hy)
  · obtain ⟨x', y, hx', hy, hc⟩ := h.each e he
    obtain ⟨x, hx, e'⟩ := hb x' hx'
    exact ⟨x, y, hx, e'.trans hy, hc⟩

/-- Some completion. -/
theorem comp_some {st : List Int} (hO : Ok st) : ∃ x, Comp x st := by
  refine ⟨st.map fun v => if v = -1 then 0 else v, by simp [hO.1], fun v hv => ?_, fun k hk hne => ?_⟩
  · obtain ⟨u, hu, rfl⟩ := List.mem_map.1 hv
    have := hO.2 u hu
    split <;> omega
  · have hl : k < st.length := by rw [hO.1]; exact hk
    have e : st.getD k 0 = st[k] := by simp [List.getD, hl]
    rw [e] at hne ⊢
    simp [List.getD, hl, hne]

theorem act_shut {o : O5} {st s : List Int} (hO : Ok st) (hs : stuck o st = none) (ha : act o st = some s) (hk4 : ¬ kd o = 4) : ∀ k, k < 4 → s.getD k 0 = -1 → st.getD k 0 = -1 := by
  have hA := cA_lt o
  have hB := cB_lt o
  have hv := vl_bd o
  have hAl : cA o < st.length := by rw [hO.1]; exact hA
  have base : ∀ v, v ≠ -1 → ∀ k, k < 4 → (st.set (cA o) v).getD k 0 = -1 → st.getD k 0 = -1 := fun v hv k _ h => by
    rw [getD_set hAl] at h
    split at h
    · exact (hv h).elim
    · exact h
  have hk := kd_lt o
  obtain k | k | k | k | k : kd o = 0 ∨ kd o = 1 ∨ kd o = 2 ∨ kd o = 3 ∨ kd o = 5 := by omega
  · rw [(act0 k).1] at ha; cases ha
    exact base _ (by omega)
  · rw [act1 k] at ha; cases ha
    exact base _ (fun h => by rw [(stuck_b (.inl k)).1 h] at hs; cases hs)
  · rw [act2 k] at ha
    split at ha
    · cases ha; exact fun _ _ h => h
    · cases ha
  · rw [act3 k] at ha; cases ha
    exact base _ (by split <;> omega)
  · rw [act5 k] at ha
    split at ha
    · cases ha
    · cases ha; exact fun _ _ h => h

theorem cover (ops : Nat → O5) : ∀ (m : Nat) (st : List Int) (fs : List Fm), Ok st → FOk fs → mu st fs < m → Cov ops st fs (runP ops m st fs) := by
  intro m
  induction m with
  | zero => intro st fs _ _ h; omega
  | succ m ih =>
    intro st fs hO hF hM
    cases fs with
    | nil =>
      rw [runP]
      refine ⟨fun e he => ?_, fun x y hx hy => ?_, fun e he => ?_⟩
      · obtain rfl := List.mem_singleton.1 he
        exact ⟨hO, fun _ _ h => h⟩
      · cases hy
        exact ⟨st, List.mem_singleton.2 rfl, hx⟩
      · obtain rfl := List.mem_singleton.1 he
        obtain ⟨x, hx⟩ := comp_some hO
        exact ⟨x, x, hx, rfl, hx⟩
    | cons f fs =>
      cases he : f.els with
      | some p =>
        obtain ⟨c, v⟩ := p
        obtain ⟨hc, hv⟩ := hF f (List.mem_cons_self ..) c v he
        have hcl : c < st.length := by rw [hO.1]; exact hc
        rw [run_els he]
        refine set_cov hO (fun k _ h => ?_) (fun x hx => ⟨_, hx.set hO.1 hc hv, exFs_els he⟩) (fun y hy => ?_) (ih _ _ (hO.set c v (by omega)) (fok_cons rfl (fok_tail hF)) (mu_lt (f := f) (opn_set_le _ _ _ (by omega)) (by unfold wt; simp [he]) hM))
        · rw [getD_set hcl] at h
          split at h
          · omega
          · exact h
        · obtain ⟨x, hx, e⟩ := hy.back hO hc hv
          exact ⟨x, hx, by rw [exFs_els he, e]⟩
      | none =>
        by_cases hi : f.hi ≤ f.i
        · have e : runP ops (m + 1) st (f :: fs) = runP ops m st fs := by rw [runP]; simp only [he, if_pos hi]
          rw [e]
          have h := ih st fs hO (fok_tail hF) (mu_pop hM)
          exact ⟨h.shut, fun x y hx hy => h.all x y hx (by rw [← exFs_done he hi]; exact hy), fun e he' => by obtain ⟨x, y, h1, h2, h3⟩ := h.each e he'; exact ⟨x, y, h1, by rw [exFs_done he hi]; exact h2, h3⟩⟩
        · have hi' : f.i < f.hi := by omega
          cases hs : stuck (ops f.i) st with
          | some r =>
            obtain ⟨hr, ho⟩ := stuck_some hs
            have hrl : r < st.length := by rw [hO.1]; exact hr
            rw [run_stuck he hi' hs]
            exact split_cov hO hr ho (ih _ _ (hO.set r 0 (by omega)) hF (mu_set hrl ho (by decide) hM).1) (ih _ _ (hO.set r 1 (by omega)) hF (mu_set hrl ho (by decide) hM).1) (ih _ _ (hO.set r 2 (by omega)) hF (mu_set hrl ho (by decide) hM).1)
          | none =>
            by_cases hk : kd (ops f.i) = 4
            · have hne : ¬ st.getD (cA (ops f.i)) 0 = -1 := fun h => by rw [(stuck_a (.inr (.inl hk))).1 h] at hs; cases hs
              by_cases hv : st.getD (cA (ops f.i)) 0 = vl (ops f.i)
              · rw [run_then he hi' hs hk hv]
                have e : ∀ x, Comp x st → exFs ops (f :: fs) x = exFs ops (⟨none, f.i + 1, f.i + 1 + ln (ops f.i) f.i f.hi⟩ :: ⟨none, f.i + 1 + ln (ops f.i) f.i f.hi, f.hi⟩ :: fs) x := fun x hx => exFs_then he hi' hk (by rw [hx.eq _ (cA_lt _) hne, hv])
                exact set_cov hO (fun _ _ h => h) (fun x hx => ⟨x, hx, e x hx⟩) (fun x hx => ⟨x, hx, e x hx⟩) (ih _ _ hO (fok_cons rfl (fok_cons rfl (fok_tail hF))) (mu_two (wt_then he hi') hM))
              · rw [run_else he hi' hs hk hv]
                have e : ∀ x, Comp x st → exFs ops (f :: fs) x = exFs ops (⟨some (cB (ops f.i), (vl (ops f.i) + 1) % 3), 0, 0⟩ :: ⟨none, f.i + 1 + ln (ops f.i) f.i f.hi, f.hi⟩ :: fs) x := fun x hx => exFs_else he hi' hk (by rw [hx.eq _ (cA_lt _) hne]; exact hv)
                refine set_cov hO (fun _ _ h => h) (fun x hx => ⟨x, hx, e x hx⟩) (fun x hx => ⟨x, hx, e x hx⟩) (ih _ _ hO ?_ (mu_two (wt_else he hi' _) hM))
                intro f' hf c v hcv
                rcases List.mem_cons.1 hf with rfl | hf
                · cases hcv
                  exact ⟨cB_lt _, by have := vl_bd (ops f.i); omega⟩
                · exact fok_cons rfl (fok_tail hF) f' hf c v hcv
            · cases ha : act (ops f.i) st with
              | none =>
                rw [run_fail he hi' hs hk ha]
                refine ⟨fun e he => (List.not_mem_nil he).elim, fun x y hx hy => ?_, fun e he => (List.not_mem_nil he).elim⟩
                rw [exFs_fail he hi' hk ((act_comp (s := st) hO hs hx).1 ha hk)] at hy
                cases hy
              | some s =>
                obtain ⟨hO2, hopn⟩ := act_ok hO ha hs
                rw [run_act he hi' hs hk ha]
                refine set_cov hO (act_shut hO hs ha hk) (fun x hx => ?_) (fun y hy => ?_) (ih _ _ hO2 (fok_cons rfl (fok_tail hF)) (mu_lt (f := f) hopn (by unfold wt; simp [he]; omega) hM))
                · obtain ⟨y, h1, h2⟩ := (act_comp hO hs hx).2 ha hk
                  exact ⟨y, h2, exFs_op he hi' hk h1⟩
                · obtain ⟨x, h1, h2⟩ := act_back hO hs hk ha hy
                  exact ⟨x, h1, exFs_op he hi' hk h2⟩

/-- What the runner emits from a state. -/
def emits (ops : Nat → O5) (n : Nat) (st : List Int) : List (List Int) := runP ops (mu st [⟨none, 0, n⟩] + 1) st [⟨none, 0, n⟩]

theorem fok_one (n : Nat) : FOk [⟨none, 0, n⟩] := fun f hf c v h => by
  obtain rfl := List.mem_singleton.1 hf
  cases h
theorem emits_cov (ops : Nat → O5) (n : Nat) {st : List Int} (hO : Ok st) : Cov ops st [⟨none, 0, n⟩] (emits ops n st) := cover ops _ _ _ hO (fok_one n) (Nat.lt_succ_self _)
theorem exFs_one (ops : Nat → O5) (n : Nat) (x : List Int) : exFs ops [⟨none, 0, n⟩] x = ex ops 0 n x := by
  simp only [exFs, exFm]
  cases ex ops 0 n x <;> rfl

theorem opn_zero {st : List Int} (h : ∀ v ∈ st, 0 ≤ v ∧ v ≤ 2) : opn st = 0 := List.countP_eq_zero.2 fun v hv => by have := h v hv; simp; omega
theorem comp_self {st : List Int} (hl : st.length = 4) (h : ∀ v ∈ st, 0 ≤ v ∧ v ≤ 2) : Comp st st := ⟨hl, h, fun _ _ _ => rfl⟩
theorem comp_closed {x e : List Int} (hO : Ok e) (hx : Comp x e) (hc : ∀ k, k < 4 → e.getD k 0 ≠ -1) : x = e := list_ext4 hx.len hO.1 fun k hk => hx.eq k hk (hc k hk)

/-- FROM A CLOSED STATE: the model's state, or none. -/
theorem emits_closed (ops : Nat → O5) (n : Nat) {st : List Int} (hl : st.length = 4) (h : ∀ v ∈ st, 0 ≤ v ∧ v ≤ 2) : emits ops n st = match ex ops 0 n st with | some s => [s] | none => [] := by
  have hO : Ok st := ⟨hl, fun v hv => by have := h v hv; omega⟩
  have hcov := emits_cov ops n hO
  have hlen : (emits ops n st).length ≤ 1 := by
    have := runP_len ops (mu st [⟨none, 0, n⟩] + 1) st [⟨none, 0, n⟩] hO (fok_one n)
    rw [opn_zero h] at this
    exact this
  have cl : ∀ k, k < 4 → st.getD k 0 ≠ -1 := fun k hk e => by have := (comp_self hl h).get k hk; omega
  have key : ∀ e ∈ emits ops n st, ex ops 0 n st = some e := fun e he => by
    obtain ⟨x, y, hx, hy, hc⟩ := hcov.each e he
    have e1 : x = st := comp_closed hO hx cl
    obtain ⟨hOe, hop⟩ := hcov.shut e he
    have e2 : y = e := comp_closed hOe hc fun k hk hh => cl k hk (hop k hk hh)
    rw [exFs_one] at hy
    rw [← e1, ← e2]
    exact hy
  cases hx : ex ops 0 n st with
  | none =>
    cases hR : emits ops n st with
    | nil => rfl
    | cons e R =>
      have := key e (by rw [hR]; exact List.mem_cons_self ..)
      rw [hx] at this
      cases this
  | some s =>
    obtain ⟨e, he, hc⟩ := hcov.all st s (comp_self hl h) (by rw [exFs_one]; exact hx)
    have e1 : s = e := by
      have := key e he
      rw [hx] at this
      exact Option.some.inj this
    cases hR : emits ops n st with
    | nil => rw [hR] at he; cases he
    | cons e' R =>
      have h1 : R = [] := by
        rw [hR] at hlen
        exact List.length_eq_zero_iff.1 (by simp at hlen; simpa using hlen)
      have h2 := key e' (by rw [hR]; exact List.mem_cons_self ..)
      rw [hx] at h2
      cases h2
      rw [h1]
end Go.Proofs.Ybulkbvqe
