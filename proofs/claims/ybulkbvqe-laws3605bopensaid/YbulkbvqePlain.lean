/-
  SEAT b3605a: THE PLAIN FUNCTIONS: no Go in sight. An operation's five bytes; what the model computes; what the runner emits.
-/
namespace Go.Proofs.Ybulkbvqe

/-- An operation: its five bytes. -/
structure O5 where
  k : Nat
  c : Nat
  d : Nat
  v : Nat
  l : Nat

def kd (o : O5) : Nat := o.k % 6
def cA (o : O5) : Nat := o.c % 4
def cB (o : O5) : Nat := o.d % 4
def vl (o : O5) : Int := ((o.v % 3 : Nat) : Int)
def ln (o : O5) (i hi : Nat) : Nat := if hi - i - 1 < o.l % 4 then hi - i - 1 else o.l % 4
/-- Where the next statement begins. -/
def nx (ops : Nat → O5) (hi i : Nat) : Nat := if kd (ops i) = 4 then i + 1 + ln (ops i) i hi else i + 1

theorem cA_lt (o : O5) : cA o < 4 := Nat.mod_lt _ (by decide)
theorem cB_lt (o : O5) : cB o < 4 := Nat.mod_lt _ (by decide)
theorem kd_lt (o : O5) : kd o < 6 := Nat.mod_lt _ (by decide)
theorem vl_bd (o : O5) : 0 ≤ vl o ∧ vl o ≤ 2 := by unfold vl; omega
theorem ln_le (o : O5) (i hi : Nat) : ln o i hi ≤ hi - i - 1 := by unfold ln; split <;> omega

/-- What an operation that is no 'if' does to a state whose cells that it reads are chosen. -/
def act (o : O5) (st : List Int) : Option (List Int) :=
  if kd o = 0 then some (st.set (cA o) (vl o))
  else if kd o = 1 then some (st.set (cA o) (st.getD (cB o) 0))
  else if kd o = 2 then (if st.getD (cA o) 0 = vl o then some st else none)
  else if kd o = 3 then some (st.set (cA o) (if st.getD (cB o) 0 = vl o then 1 else 0))
  else (if st.getD (cA o) 0 = vl o then none else some st)

/-- The model: it runs ops[i:hi]. -/
def execP (ops : Nat → O5) : Nat → Nat → Nat → List Int → Option (List Int)
  | 0, _, _, st => some st
  | n + 1, i, hi, st =>
    if hi ≤ i then some st
    else if kd (ops i) = 4 then
      (if st.getD (cA (ops i)) 0 = vl (ops i) then (execP ops n (i + 1) (i + 1 + ln (ops i) i hi) st).bind fun s => execP ops n (i + 1 + ln (ops i) i hi) hi s
       else execP ops n (i + 1 + ln (ops i) i hi) hi (st.set (cB (ops i)) ((vl (ops i) + 1) % 3)))
    else (act (ops i) st).bind fun s => execP ops n (i + 1) hi s

/-- A block that is still to run: at most one setting first, then ops[i:hi]. -/
structure Fm where
  els : Option (Nat × Int)
  i : Nat
  hi : Nat

/-- The open cell at which an operation stops. -/
def stuck (o : O5) (st : List Int) : Option Nat :=
  if kd o = 0 then none
  else if st.getD (if kd o = 1 ∨ kd o = 3 then cB o else cA o) 0 = -1 then some (if kd o = 1 ∨ kd o = 3 then cB o else cA o) else none

/-- The states that the runner emits, in their order. -/
def runP (ops : Nat → O5) : Nat → List Int → List Fm → List (List Int)
  | 0, _, _ => []
  | _ + 1, st, [] => [st]
  | n + 1, st, f :: fs =>
    match f.els with
    | some (c, v) => runP ops n (st.set c v) (⟨none, 0, 0⟩ :: fs)
    | none =>
      if f.hi ≤ f.i then runP ops n st fs
      else
        match stuck (ops f.i) st with
        | some r => runP ops n (st.set r 0) (f :: fs) ++ (runP ops n (st.set r 1) (f :: fs) ++ runP ops n (st.set r 2) (f :: fs))
        | none =>
          if kd (ops f.i) = 4 then
            (if st.getD (cA (ops f.i)) 0 = vl (ops f.i) then runP ops n st (⟨none, f.i + 1, f.i + 1 + ln (ops f.i) f.i f.hi⟩ :: ⟨none, f.i + 1 + ln (ops f.i) f.i f.hi, f.hi⟩ :: fs)
             else runP ops n st (⟨some (cB (ops f.i), (vl (ops f.i) + 1) % 3), 0, 0⟩ :: ⟨none, f.i + 1 + ln (ops f.i) f.i f.hi, f.hi⟩ :: fs))
          else
            match act (ops f.i) st with
            | none => []
            | some s => runP ops n s (⟨none, f.i + 1, f.hi⟩ :: fs)

/-- How many cells are open. -/
def opn (st : List Int) : Nat := st.countP (· == -1)
/-- How much is still to run. -/
def wt (f : Fm) : Nat := 3 * (f.hi - f.i) + 1 + (if f.els.isSome then 1 else 0)
def tot : List Fm → Nat
  | [] => 0
  | f :: fs => wt f + tot fs
def mu (st : List Int) (fs : List Fm) : Nat := opn st * 2000 + tot fs

/-- A state: four cells, each open or 0, 1, 2. -/
def Ok (st : List Int) : Prop := st.length = 4 ∧ ∀ x ∈ st, -1 ≤ x ∧ x ≤ 2

theorem Ok.set {st : List Int} (h : Ok st) (c : Nat) (x : Int) (hx : -1 ≤ x ∧ x ≤ 2) : Ok (st.set c x) := by
  refine ⟨by simp [h.1], fun y hy => ?_⟩
  rcases List.mem_or_eq_of_mem_set hy with hy | rfl
  · exact h.2 y hy
  · exact hx

theorem Ok.get {st : List Int} (h : Ok st) (c : Nat) (hc : c < 4) : -1 ≤ st.getD c 0 ∧ st.getD c 0 ≤ 2 := by
  have hl : c < st.length := by rw [h.1]; exact hc
  have : st.getD c 0 = st[c] := by simp [List.getD, hl]
  rw [this]
  exact h.2 _ (List.getElem_mem hl)

theorem opn_set_le (st : List Int) (c : Nat) (x : Int) (hx : x ≠ -1) : opn (st.set c x) ≤ opn st := by
  unfold opn
  by_cases h : c < st.length
  · rw [List.countP_set h]
    simp [hx]
  · rw [List.set_eq_of_length_le (by omega)]
    exact Nat.le_refl _

theorem opn_set_lt (st : List Int) (c : Nat) (x : Int) (hx : x ≠ -1) (hc : c < st.length) (ho : st.getD c 0 = -1) : opn (st.set c x) + 1 = opn st := by
  have hg : st[c] = -1 := by simpa [List.getD, hc] using ho
  have hpos : 0 < st.countP (· == -1) := List.countP_pos_iff.2 ⟨st[c], List.getElem_mem hc, by simp [hg]⟩
  unfold opn
  rw [List.countP_set hc]
  simp [hx, hg]
  omega

theorem act_ok {o : O5} {st s : List Int} (h : Ok st) (ha : act o st = some s) (hs : stuck o st = none) : Ok s ∧ opn s ≤ opn st := by
  have hv := vl_bd o
  unfold act at ha
  unfold stuck at hs
  by_cases k0 : kd o = 0
  · rw [if_pos k0] at ha
    cases ha
    exact ⟨h.set _ _ (by omega), opn_set_le _ _ _ (by omega)⟩
  · rw [if_neg k0] at ha hs
    by_cases k1 : kd o = 1
    · rw [if_pos k1] at ha
      cases ha
      have g := h.get (cB o) (cB_lt o)
      have hne : st.getD (cB o) 0 ≠ -1 := by
        intro e
        simp only [k1, true_or, if_true] at hs
        rw [if_pos e] at hs
        cases hs
      exact ⟨h.set _ _ g, opn_set_le _ _ _ hne⟩
    · rw [if_neg k1] at ha
      by_cases k2 : kd o = 2
      · rw [if_pos k2] at ha
        split at ha
        · cases ha; exact ⟨h, Nat.le_refl _⟩
        · cases ha
      · rw [if_neg k2] at ha
        by_cases k3 : kd o = 3
        · rw [if_pos k3] at ha
          cases ha
          exact ⟨h.set _ _ (by split <;> omega), opn_set_le _ _ _ (by split <;> omega)⟩
        · rw [if_neg k3] at ha
          split at ha
          · cases ha
          · cases ha; exact ⟨h, Nat.le_refl _⟩
end Go.Proofs.Ybulkbvqe
