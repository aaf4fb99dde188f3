/-
  SEAT b3605a: the completions, one for each number below 81; what is found, what is seen.
-/
import Derived.Test.YbulkbvqeClosed
namespace Go.Proofs.Ybulkbvqe
set_option linter.unusedVariables false

/-- The first k cells completed by the digits of m. -/
def fill (s : List Int) (m : Nat) : Nat → List Int
  | 0 => s
  | k + 1 => if s.getD k 0 = -1 then (fill s m k).set k ((m / 3 ^ k % 3 : Nat) : Int) else fill s m k

theorem fill_len (s : List Int) (m : Nat) : ∀ k, (fill s m k).length = s.length
  | 0 => rfl
  | k + 1 => by
    rw [fill]
    split
    · rw [List.length_set, fill_len s m k]
    · exact fill_len s m k
theorem fill_get {s : List Int} (hl : s.length = 4) (m : Nat) : ∀ k, k ≤ 4 → ∀ j, j < 4 → (fill s m k).getD j 0 = if j < k ∧ s.getD j 0 = -1 then ((m / 3 ^ j % 3 : Nat) : Int) else s.getD j 0
  | 0, _, j, _ => by rw [fill, if_neg (by omega)]
  | k + 1, hk, j, hj => by
    have ih := fill_get hl m k (by omega) j hj
    rw [fill]
    by_cases h : s.getD k 0 = -1
    · rw [if_pos h, getD_set (by rw [fill_len, hl]; omega)]
      by_cases hjk : j = k
      · subst hjk
        rw [if_pos rfl, if_pos ⟨Nat.lt_succ_self _, h⟩]
      · rw [if_neg hjk, ih]
        by_cases h2 : j < k ∧ s.getD j 0 = -1
        · rw [if_pos h2, if_pos ⟨by omega, h2.2⟩]
        · rw [if_neg h2, if_neg (fun h3 => h2 ⟨by omega, h3.2⟩)]
    · rw [if_neg h, ih]
      by_cases h2 : j < k ∧ s.getD j 0 = -1
      · rw [if_pos h2, if_pos ⟨by omega, h2.2⟩]
      · rw [if_neg h2, if_neg (fun h3 => h2 ⟨by
          rcases Nat.lt_or_ge j k with h4 | h4
          · exact h4
          · obtain rfl : j = k := by omega
            exact (h h3.2).elim, h3.2⟩)]

theorem bd_of_get {x : List Int} (hl : x.length = 4) (h : ∀ j, j < 4 → 0 ≤ x.getD j 0 ∧ x.getD j 0 ≤ 2) : ∀ v ∈ x, 0 ≤ v ∧ v ≤ 2 := by
  intro v hv
  obtain ⟨i, hi, rfl⟩ := List.getElem_of_mem hv
  have := h i (by omega)
  simpa [List.getD, hi] using this

theorem fill_comp {s : List Int} (hO : Ok s) (m : Nat) : Comp (fill s m 4) s := by
  have hl := hO.1
  refine ⟨by rw [fill_len, hl], bd_of_get (by rw [fill_len, hl]) fun j hj => ?_, fun k hk hne => ?_⟩
  · rw [fill_get hl m 4 (Nat.le_refl _) j hj]
    have h1 := hO.get j hj
    have h2 : m / 3 ^ j % 3 < 3 := Nat.mod_lt _ (by decide)
    by_cases h : s.getD j 0 = -1
    · rw [if_pos ⟨hj, h⟩]; omega
    · rw [if_neg (fun h3 => h h3.2)]; omega
  · rw [fill_get hl m 4 (Nat.le_refl _) k hk, if_neg (fun h => hne h.2)]

theorem fill_all {s x : List Int} (hO : Ok s) (hx : Comp x s) : ∃ m, m < 81 ∧ fill s m 4 = x := by
  have b0 := hx.get 0 (by omega)
  have b1 := hx.get 1 (by omega)
  have b2 := hx.get 2 (by omega)
  have b3 := hx.get 3 (by omega)
  obtain ⟨d0, e0⟩ : ∃ d : Nat, x.getD 0 0 = (d : Int) := ⟨(x.getD 0 0).toNat, by omega⟩
  obtain ⟨d1, e1⟩ : ∃ d : Nat, x.getD 1 0 = (d : Int) := ⟨(x.getD 1 0).toNat, by omega⟩
  obtain ⟨d2, e2⟩ : ∃ d : Nat, x.getD 2 0 = (d : Int) := ⟨(x.getD 2 0).toNat, by omega⟩
  obtain ⟨d3, e3⟩ : ∃ d : Nat, x.getD 3 0 = (d : Int) := ⟨(x.getD 3 0).toNat, by omega⟩
  refine ⟨d0 + 3 * d1 + 9 * d2 + 27 * d3, by omega, list_ext4 (by rw [fill_len, hO.1]) hx.len fun j hj => ?_⟩
  rw [fill_get hO.1 _ 4 (Nat.le_refl _) j hj]
  by_cases h : s.getD j 0 = -1
  · rw [if_pos ⟨hj, h⟩]
    obtain rfl | rfl | rfl | rfl : j = 0 ∨ j = 1 ∨ j = 2 ∨ j = 3 := by omega
    · rw [e0, show (3 : Nat) ^ 0 = 1 from rfl]; omega
    · rw [e1, show (3 : Nat) ^ 1 = 3 from rfl]; omega
    · rw [e2, show (3 : Nat) ^ 2 = 9 from rfl]; omega
    · rw [e3, show (3 : Nat) ^ 3 = 27 from rfl]; omega
  · rw [if_neg (fun h3 => h h3.2), hx.eq j hj h]

theorem mt_comp {e y : List Int} (h : Comp y e) : ∀ k, k ≤ 4 → mtTo e y k = true
  | 0, _ => rfl
  | k + 1, hk => by
    rw [mtTo, mt_comp h k (by omega)]
    by_cases h1 : e.getD k 0 = -1
    · rw [h1]; rfl
    · rw [h.eq k (by omega) h1]; simp

/-- Among the first j of the log one matches y. -/
def fdTo (es : List (List Int)) (y : List Int) : Nat → Bool
  | 0 => false
  | j + 1 => fdTo es y j || mtTo (es.getD j []) y 4
theorem fd_mono {es : List (List Int)} {y : List Int} {j : Nat} (h : fdTo es y j = true) : ∀ d, fdTo es y (j + d) = true
  | 0 => h
  | d + 1 => by rw [← Nat.add_assoc, fdTo, fd_mono h d]; rfl
theorem fd_some {es : List (List Int)} {y e : List Int} (he : e ∈ es) (hm : mtTo e y 4 = true) : fdTo es y es.length = true := by
  obtain ⟨i, hi, rfl⟩ := List.getElem_of_mem he
  have h1 : fdTo es y (i + 1) = true := by
    rw [fdTo]
    have e1 : es.getD i [] = es[i] := by simp [List.getD, hi]
    rw [e1, hm, Bool.or_true]
  have := fd_mono h1 (es.length - (i + 1))
  rwa [show i + 1 + (es.length - (i + 1)) = es.length by omega] at this

/-- The m-th completion is accepted and e matches its end. -/
def hit (ops : Nat → O5) (n : Nat) (s : List Int) (m : Nat) (e : List Int) : Bool :=
  match ex ops 0 n (fill s m 4) with
  | some y => mtTo e y 4
  | none => false
def seenTo (ops : Nat → O5) (n : Nat) (s : List Int) (e : List Int) : Nat → Bool
  | 0 => false
  | m + 1 => seenTo ops n s e m || hit ops n s m e
theorem seen_mono {ops : Nat → O5} {n : Nat} {s e : List Int} {m : Nat} (h : seenTo ops n s e m = true) : ∀ d, seenTo ops n s e (m + d) = true
  | 0 => h
  | d + 1 => by rw [← Nat.add_assoc, seenTo, seen_mono h d]; rfl

/-- EACH EMITTED STATE IS SEEN. -/
theorem seen_all {ops : Nat → O5} {n : Nat} {s e : List Int} (hO : Ok s) (he : e ∈ emits ops n s) : seenTo ops n s e 81 = true := by
  obtain ⟨x, y, hx, hy, hc⟩ := (emits_cov ops n hO).each e he
  obtain ⟨m, hm, rfl⟩ := fill_all hO hx
  rw [exFs_one] at hy
  have h1 : seenTo ops n s e (m + 1) = true := by
    rw [seenTo, hit, hy]
    simp [mt_comp hc 4 (Nat.le_refl _)]
  have := seen_mono h1 (81 - (m + 1))
  rwa [show m + 1 + (81 - (m + 1)) = 81 by omega] at this
/-- EACH ACCEPTED COMPLETION IS FOUND. -/
theorem found_all {ops : Nat → O5} {n m : Nat} {s y : List Int} (hO : Ok s) (hy : ex ops 0 n (fill s m 4) = some y) : fdTo (emits ops n s) y (emits ops n s).length = true := by
  obtain ⟨e, he, hc⟩ := (emits_cov ops n hO).all _ y (fill_comp hO m) (by rw [exFs_one]; exact hy)
  exact fd_some he (mt_comp hc 4 (Nat.le_refl _))
/-- NO CELL IS OPENED. -/
theorem shut_all {ops : Nat → O5} {n : Nat} {s : List Int} (hO : Ok s) {j : Nat} (hj : j < (emits ops n s).length) : Ok ((emits ops n s).getD j []) ∧ ∀ k, k < 4 → ((emits ops n s).getD j []).getD k 0 = -1 → s.getD k 0 = -1 := by
  have e1 : (emits ops n s).getD j [] = (emits ops n s)[j] := by simp [List.getD, hj]
  rw [e1]
  exact (emits_cov ops n hO).shut _ (List.getElem_mem hj)
theorem emits_len {ops : Nat → O5} {n : Nat} {s : List Int} (hO : Ok s) : (emits ops n s).length ≤ 81 := by
  have h1 := runP_len ops (mu s [⟨none, 0, n⟩] + 1) s [⟨none, 0, n⟩] hO (fok_one n)
  have h2 : opn s ≤ 4 := by
    have : opn s ≤ s.length := List.countP_le_length
    rwa [hO.1] at this
  exact Nat.le_trans h1 (Nat.pow_le_pow_right (by decide) h2)
end Go.Proofs.Ybulkbvqe
