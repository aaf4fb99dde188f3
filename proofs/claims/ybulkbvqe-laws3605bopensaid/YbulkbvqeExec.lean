/-
  SEAT b3605a: the model's run, walked; its plain function without fuel.
-/
import Derived.Test.YbulkbvqeBuild
namespace Go.Proofs.Ybulkbvqe
open Go.ChangeShapes Go.WideShapes Go.ChangeAt Go.RowKit
set_option linter.unusedVariables false

theorem exec_fuel (ops : Nat → O5) : ∀ (n m i hi : Nat) (st : List Int), hi - i ≤ n → hi - i ≤ m → execP ops n i hi st = execP ops m i hi st := by
  intro n
  induction n with
  | zero =>
    intro m i hi st h1 h2
    cases m with
    | zero => rfl
    | succ m => rw [execP, execP, if_pos (by omega)]
  | succ n ih =>
    intro m i hi st h1 h2
    cases m with
    | zero => rw [execP, execP, if_pos (by omega)]
    | succ m =>
      have hl := ln_le (ops i) i hi
      rw [execP, execP]
      by_cases h : hi ≤ i
      · rw [if_pos h, if_pos h]
      · rw [if_neg h, if_neg h]
        by_cases k : kd (ops i) = 4
        · rw [if_pos k, if_pos k, ih m (i + 1) (i + 1 + ln (ops i) i hi) st (by omega) (by omega), ih m (i + 1 + ln (ops i) i hi) hi (st.set (cB (ops i)) ((vl (ops i) + 1) % 3)) (by omega) (by omega)]
          congr 2
          funext s
          exact ih m _ hi s (by omega) (by omega)
        · rw [if_neg k, if_neg k]
          congr 1
          funext s
          exact ih m _ hi s (by omega) (by omega)

/-- The model on ops[i:hi]. -/
def ex (ops : Nat → O5) (i hi : Nat) (st : List Int) : Option (List Int) := execP ops (hi - i) i hi st

theorem ex_done {ops : Nat → O5} {i hi : Nat} {st : List Int} (h : hi ≤ i) : ex ops i hi st = some st := by
  unfold ex
  rw [exec_fuel ops (hi - i) 1 i hi st (Nat.le_refl _) (by omega), execP, if_pos h]
theorem ex_step {ops : Nat → O5} {i hi : Nat} {st : List Int} (h : i < hi) : ex ops i hi st = if kd (ops i) = 4 then
      (if st.getD (cA (ops i)) 0 = vl (ops i) then (ex ops (i + 1) (i + 1 + ln (ops i) i hi) st).bind fun s => ex ops (i + 1 + ln (ops i) i hi) hi s
       else ex ops (i + 1 + ln (ops i) i hi) hi (st.set (cB (ops i)) ((vl (ops i) + 1) % 3)))
    else (act (ops i) st).bind fun s => ex ops (i + 1) hi s := by
  have hl := ln_le (ops i) i hi
  unfold ex
  rw [exec_fuel ops (hi - i) (hi - i - 1 + 1) i hi st (Nat.le_refl _) (by omega), execP, if_neg (by omega)]
  rw [exec_fuel ops (hi - i - 1) (i + 1 + ln (ops i) i hi - (i + 1)) (i + 1) (i + 1 + ln (ops i) i hi) st (by omega) (by omega), exec_fuel ops (hi - i - 1) (hi - (i + 1 + ln (ops i) i hi)) (i + 1 + ln (ops i) i hi) hi (st.set (cB (ops i)) ((vl (ops i) + 1) % 3)) (by omega) (by omega)]
  have e1 : (fun s => execP ops (hi - i - 1) (i + 1 + ln (ops i) i hi) hi s) = fun s => execP ops (hi - (i + 1 + ln (ops i) i hi)) (i + 1 + ln (ops i) i hi) hi s := by
    funext s; exact exec_fuel ops _ _ _ _ _ (by omega) (by omega)
  have e2 : (fun s => execP ops (hi - i - 1) (i + 1) hi s) = fun s => execP ops (hi - (i + 1)) (i + 1) hi s := by
    funext s; exact exec_fuel ops _ _ _ _ _ (by omega) (by omega)
  rw [e1, e2]
theorem ex_op {ops : Nat → O5} {i hi : Nat} {st s : List Int} (h : i < hi) (hk : ¬ kd (ops i) = 4) (ha : act (ops i) st = some s) : ex ops i hi st = ex ops (i + 1) hi s := by rw [ex_step h, if_neg hk, ha]; rfl
theorem ex_fail {ops : Nat → O5} {i hi : Nat} {st : List Int} (h : i < hi) (hk : ¬ kd (ops i) = 4) (ha : act (ops i) st = none) : ex ops i hi st = none := by rw [ex_step h, if_neg hk, ha]; rfl
theorem ex_then {ops : Nat → O5} {i hi : Nat} {st : List Int} (h : i < hi) (hk : kd (ops i) = 4) (hv : st.getD (cA (ops i)) 0 = vl (ops i)) : ex ops i hi st = (ex ops (i + 1) (i + 1 + ln (ops i) i hi) st).bind fun s => ex ops (i + 1 + ln (ops i) i hi) hi s := by rw [ex_step h, if_pos hk, if_pos hv]
theorem ex_else {ops : Nat → O5} {i hi : Nat} {st : List Int} (h : i < hi) (hk : kd (ops i) = 4) (hv : ¬ st.getD (cA (ops i)) 0 = vl (ops i)) : ex ops i hi st = ex ops (i + 1 + ln (ops i) i hi) hi (st.set (cB (ops i)) ((vl (ops i) + 1) % 3)) := by rw [ex_step h, if_pos hk, if_neg hv]

/-- What the model's run leaves. -/
def ExFin (w w' : World) (xb : Nat) (r : Option (List Int)) (e : Ending) : Prop :=
  w.grownBy w' (some xb) ∧ ((∃ s, r = some s ∧ e = .returned (.bool true) ∧ s.length = 4 ∧ St w' xb s) ∨ (r = none ∧ e = .returned (.bool false)))

/-- Where the model's run stands. -/
structure Exs (w wr : World) (ops : Nat → O5) (lo hi i xb : Nat) (st s : List Int) : Prop where
  gr : w.grownBy wr (some xb)
  stt : St wr xb s
  len : s.length = 4
  eq : ex ops lo hi st = ex ops i hi s

theorem Exs.next {w wr wr' : World} {ops : Nat → O5} {lo hi i i' xb : Nat} {st s s' : List Int} (h : Exs w wr ops lo hi i xb st s) (hg : wr.grownBy wr' (some xb)) (hs : St wr' xb s') (hl : s'.length = 4) (he : ex ops i hi s = ex ops i' hi s') : Hid (Exs w wr' ops lo hi i' xb st s') :=
  ⟨h.gr.trans hg, hs, hl, h.eq.trans he⟩
theorem grown_set {w : World} {xb c : Nat} {v : Value} {o : Obj} (hx : xb < w.heap.size) : w.grownBy ((w.setCell ⟨xb, c, none⟩ v).alloc o) (some xb) := by
  refine ⟨rfl, rfl, rfl, by simp [World.setCell], fun k hk hne => ?_⟩
  rw [Below.heap_alloc _ _ _ (by simpa [World.setCell] using hk), Below.heap_setCell _ _ _ _ (fun e => hne (by rw [e]))]
theorem St.alloc {w : World} {xb : Nat} {s : List Int} (h : St w xb s) (o : Obj) : St (w.alloc o) xb s := by
  obtain ⟨t, ht⟩ := h
  exact ⟨t, (Below.heap_alloc _ _ _ (lt_of_block ht)).trans ht⟩
theorem OpsAt.turned {w w' : World} {ao : Option Addr} {n : Nat} {ops : Nat → O5} {xb : Nat} (h : OpsAt w ao n ops) (hne : ∀ b o, ao = some ⟨b, o, none⟩ → n ≠ 0 → b ≠ xb) (hg : w.grownBy w' (some xb)) : OpsAt w' ao n ops := by
  rcases h with h | ⟨b, o, h1, h2, h3⟩
  · exact .inl h
  · by_cases h0 : n = 0
    · exact .inl h0
    · have hb : w'.heap[b]? = w.heap[b]? := hg.block b h2 (fun e => hne b o h1 h0 (Option.some.inj e))
      refine .inr ⟨b, o, h1, Nat.lt_of_lt_of_le h2 hg.size, fun j hj => ?_⟩
      obtain ⟨k0, k1, k2, k3, k4⟩ := h3 j hj
      have e : ∀ a : Addr, a.block = b → w'.cell? a = w.cell? a := fun a ha => World.cell?_of_block (by rw [ha]; exact hb)
      exact ⟨(e _ rfl).trans k0, (e _ rfl).trans k1, (e _ rfl).trans k2, (e _ rfl).trans k3, (e _ rfl).trans k4⟩

/-- THE MODEL's CONTRACT for blocks of at most D operations. -/
def ExecOK (ops : Nat → O5) (D : Nat) : Prop :=
  ∀ (w : World) (ao : Option Addr) (n c lo hi xb cap : Nat) (st : List Int), OpsAt w ao n ops → (∀ b o, ao = some ⟨b, o, none⟩ → n ≠ 0 → b ≠ xb) → n ≤ 600 → lo ≤ hi → hi ≤ n → hi - lo ≤ D → St w xb st → st.length = 4 →
    Calls Yba.prog 6 #[.slice ao n c, .int .i64 lo, .int .i64 hi, .slice (some ⟨xb, 0, none⟩) 4 cap] w fun e w' => ExFin w w' xb (ex ops lo hi st) e
end Go.Proofs.Ybulkbvqe
