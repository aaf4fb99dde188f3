/-
  SEAT b3605a: the parts of the run's walk.
-/
import Derived.Test.YbulkbvqeStep
import Derived.Test.YbulkbvqeEmit
import Derived.Deep.LoopGhost
namespace Go.Proofs.Ybulkbvqe
open Go.ChangeShapes Go.WideShapes Go.ChangeAt Go.RowKit
set_option linter.unusedVariables false

/-- WHERE A RUN STANDS: m steps are left, the state is st, the blocks fs are still to run; what is still to be emitted is all that the run emits. -/
structure RS (g : Gh) (wp : World) (ops : Nat → O5) (w : World) (es : List (List Int)) (bs : List Nat) (sb cap : Nat) (all : List (List Int)) (m : Nat) (st : List Int) (fs : List Fm) (bl : Int) (wr : World) : Prop where
  inv : Inv g wp wr (.slice (some ⟨sb, 0, none⟩) 4 cap) bl es bs
  stt : St wr sb st
  ok : Ok st
  fok : FOk fs
  frm : Frm g sb w wr
  hmu : mu st fs < m
  htot : tot fs < 2000
  len : es.length + 3 ^ opn st ≤ 1000
  eq : runP ops m st fs = all

theorem RS.pos {g : Gh} {wp : World} {ops : Nat → O5} {w : World} {es : List (List Int)} {bs : List Nat} {sb cap : Nat} {all : List (List Int)} {m : Nat} {st : List Int} {fs : List Fm} {bl : Int} {wr : World}
    (h : RS g wp ops w es bs sb cap all m st fs bl wr) : ∃ q, m = q + 1 ∧ Hid (RS g wp ops w es bs sb cap all (q + 1) st fs bl wr) := by
  have h1 := h.hmu
  obtain ⟨q, rfl⟩ : ∃ q, m = q + 1 := ⟨m - 1, by omega⟩
  exact ⟨q, rfl, h⟩

theorem done_of {A Z : Nat} {w : World} {ops : Nat → O5} {f : Fm} (h : Rem A Z w ops f []) : f.els = none ∧ f.hi ≤ f.i := by
  unfold Rem at h
  split at h
  · obtain ⟨y, hy, _⟩ := h; cases hy
  · rename_i he
    obtain ⟨D, e, h1, h2⟩ := h
    cases (h2 : f.i = e)
    exact ⟨he, h1⟩

/-- A block that is done is left. -/
theorem RS.pop {g : Gh} {wp : World} {ops : Nat → O5} {w : World} {es : List (List Int)} {bs : List Nat} {sb cap : Nat} {all : List (List Int)} {m : Nat} {st : List Int} {f : Fm} {fs : List Fm} {bl : Int} {wr : World}
    (h : RS g wp ops w es bs sb cap all m st (f :: fs) bl wr) (he : f.els = none) (hi : f.hi ≤ f.i) : ∃ q, m = q + 1 ∧ mu st fs < q ∧ runP ops q st fs = all := by
  have h1 := h.hmu
  obtain ⟨q, rfl⟩ : ∃ q, m = q + 1 := ⟨m - 1, by omega⟩
  refine ⟨q, rfl, ?_, ?_⟩
  · have hw : 1 ≤ wt f := by unfold wt; omega
    have e : mu st (f :: fs) = mu st fs + wt f := by unfold mu; simp only [tot]; rw [← Nat.add_assoc, Nat.add_right_comm]
    omega
  · rw [← h.eq, runP]
    simp only [he, if_pos hi]

theorem Conts.drewN {g : Gh} {wp : World} {ops : Nat → O5} {w : World} {fs : List Fm} {v : Value} (h : Conts g wp ops w fs v) (q : Nat) : Conts g wp ops (w.drewN q) fs v := Conts.carried (w := w) (w' := w.drewN q) (fun k cs _ hh => hh) h

theorem rem_cases {A Z : Nat} {w : World} {ops : Nat → O5} {f : Fm} {y : Value} {rest : List Value} (h : Rem A Z w ops f (y :: rest)) :
    (∃ c v, f.els = some (c, v) ∧ rest = [] ∧ SetK A Z w y c v) ∨ (f.els = none ∧ f.i < f.hi ∧ ∃ D, Stmt A Z w ops D f.hi f.i y ∧ Rem A Z w ops ⟨none, nx ops f.hi f.i, f.hi⟩ rest) := by
  unfold Rem at h
  split at h
  · rename_i c v he
    obtain ⟨y', hy, h1⟩ := h
    cases hy
    exact .inl ⟨c, v, he, rfl, h1⟩
  · rename_i he
    obtain ⟨D, e, h1, h2, h3, h4⟩ := h
    exact .inr ⟨he, h2, D, h3, D, e, h1, h4⟩

/-- The slice from element k on. -/
theorem slc_drop {A Z : Nat} {w : World} {ys : List Value} {b o c k : Nat} (hb : A ≤ b ∧ b < Z) (hc : ys.length ≤ c) (hm : c ≤ maxLen) (hcell : ∀ j, j < ys.length → w.cell? ⟨b, o + j, none⟩ = some (ys.getD j .nilIface)) (hk : k ≤ ys.length) :
    Slc A Z w (.slice (some ⟨b, o + k, none⟩) (ys.length - k) (c - k)) (ys.drop k) := by
  refine ⟨_, _, by rw [List.length_drop], by rw [List.length_drop]; omega, by omega, ?_⟩
  by_cases h0 : ys.drop k = []
  · exact .inl h0
  · refine .inr ⟨b, o + k, rfl, hb, fun j hj => ?_⟩
    rw [List.length_drop] at hj
    rw [Nat.add_assoc, hcell (k + j) (by omega)]
    simp [List.getD]
theorem slc_empty {A Z : Nat} {w : World} {a : Option Addr} {c : Nat} (hm : c ≤ maxLen) : Slc A Z w (.slice a 0 c) [] := ⟨a, c, rfl, Nat.zero_le _, hm, .inl rfl⟩

theorem mu_lt {st s : List Int} {f f' : Fm} {fs : List Fm} {q : Nat} (ho : opn s ≤ opn st) (hw : wt f' < wt f) (h : mu st (f :: fs) < q + 1) : mu s (f' :: fs) < q := by
  unfold mu at h ⊢
  simp only [tot] at h ⊢
  have h1 : opn s * 2000 ≤ opn st * 2000 := Nat.mul_le_mul_right _ ho
  have h2 : opn s * 2000 + (wt f' + tot fs) < opn st * 2000 + (wt f + tot fs) := Nat.add_lt_add_of_le_of_lt h1 (Nat.add_lt_add_right hw _)
  exact Nat.lt_of_lt_of_le h2 (Nat.le_of_lt_succ h)

/-- One step on: a new state, what is left of the block, a new world. -/
theorem RS.next {g : Gh} {wp : World} {ops : Nat → O5} {w : World} {es : List (List Int)} {bs : List Nat} {sb cap : Nat} {all : List (List Int)} {q : Nat} {st s : List Int} {f f' : Fm} {fs : List Fm} {bl bl' : Int} {wr wr' : World}
    (h : RS g wp ops w es bs sb cap all (q + 1) st (f :: fs) bl wr) (hP : g.P1 ≤ w.heap.size) (hI : Inv g wp wr' (.slice (some ⟨sb, 0, none⟩) 4 cap) bl' es bs) (hS : St wr' sb s) (hO : Ok s) (ho : opn s ≤ opn st) (he : f'.els = none) (hF : Frm g sb wr wr') (hw : wt f' < wt f)
    (heq : runP ops (q + 1) st (f :: fs) = runP ops q s (f' :: fs)) : RS g wp ops w es bs sb cap all q s (f' :: fs) bl' wr' := by
  refine ⟨hI, hS, hO, ?_, h.frm.trans hF hP (.inl rfl), mu_lt ho hw h.hmu, ?_, Nat.le_trans (Nat.add_le_add_left (Nat.pow_le_pow_right (by decide) ho) _) h.len, heq.symm.trans h.eq⟩
  · intro f2 hf2 c v hv
    rcases List.mem_cons.1 hf2 with rfl | hf2
    · rw [he] at hv; cases hv
    · exact h.fok f2 (List.mem_cons_of_mem _ hf2) c v hv
  · have := h.htot
    simp only [tot] at this ⊢
    omega

theorem runP_nil {ops : Nat → O5} {q : Nat} {st : List Int} (h : 0 < q) : runP ops q st [] = [st] := by
  obtain ⟨p, rfl⟩ : ∃ p, q = p + 1 := ⟨q - 1, by omega⟩
  rfl

theorem RS.popped {g : Gh} {wp : World} {ops : Nat → O5} {w : World} {es : List (List Int)} {bs : List Nat} {sb cap : Nat} {all : List (List Int)} {m q : Nat} {st : List Int} {f : Fm} {fs : List Fm} {bl : Int} {wr : World}
    (h : RS g wp ops w es bs sb cap all m st (f :: fs) bl wr) (hm : m = q + 1) (hmu : mu st fs < q) (heq : runP ops q st fs = all) : RS g wp ops w es bs sb cap all q st fs bl wr :=
  ⟨h.inv, h.stt, h.ok, fun f' hf => h.fok f' (List.mem_cons_of_mem _ hf), h.frm, hmu, by have := h.htot; simp only [tot] at this; omega, h.len, heq⟩

theorem RS.drewN {g : Gh} {wp : World} {ops : Nat → O5} {w : World} {es : List (List Int)} {bs : List Nat} {sb cap : Nat} {all : List (List Int)} {m : Nat} {st : List Int} {fs : List Fm} {bl : Int} {wr : World}
    (h : RS g wp ops w es bs sb cap all m st fs bl wr) (q : Nat) : RS g wp ops w es bs sb cap all m st fs bl (wr.drewN q) :=
  ⟨h.inv.drewN q, h.stt, h.ok, h.fok, h.frm.drewN q, h.hmu, h.htot, h.len, h.eq⟩

/-! Which statement an interface holds. -/
theorem ta47_47 (a : Option Addr) (w : World) : (Instr.typeAssert (.iface 47 (.pointer a)) 46 47 true).run Yba.prog w = .ok (.tuple #[.pointer a, .bool true]) w := by kernel_rfl
theorem ta55_47 (a : Option Addr) (w : World) : (Instr.typeAssert (.iface 55 (.pointer a)) 46 47 true).run Yba.prog w = .ok (.tuple #[.pointer none, .bool false]) w := by kernel_rfl
theorem ta55_55 (a : Option Addr) (w : World) : (Instr.typeAssert (.iface 55 (.pointer a)) 46 55 true).run Yba.prog w = .ok (.tuple #[.pointer a, .bool true]) w := by kernel_rfl
theorem ta60_47 (a : Option Addr) (w : World) : (Instr.typeAssert (.iface 60 (.pointer a)) 46 47 true).run Yba.prog w = .ok (.tuple #[.pointer none, .bool false]) w := by kernel_rfl
theorem ta60_55 (a : Option Addr) (w : World) : (Instr.typeAssert (.iface 60 (.pointer a)) 46 55 true).run Yba.prog w = .ok (.tuple #[.pointer none, .bool false]) w := by kernel_rfl
theorem ta60_60 (a : Option Addr) (w : World) : (Instr.typeAssert (.iface 60 (.pointer a)) 46 60 true).run Yba.prog w = .ok (.tuple #[.pointer a, .bool true]) w := by kernel_rfl
theorem ta62_47 (a : Option Addr) (w : World) : (Instr.typeAssert (.iface 62 (.pointer a)) 46 47 true).run Yba.prog w = .ok (.tuple #[.pointer none, .bool false]) w := by kernel_rfl
theorem ta62_55 (a : Option Addr) (w : World) : (Instr.typeAssert (.iface 62 (.pointer a)) 46 55 true).run Yba.prog w = .ok (.tuple #[.pointer none, .bool false]) w := by kernel_rfl
theorem ta62_60 (a : Option Addr) (w : World) : (Instr.typeAssert (.iface 62 (.pointer a)) 46 60 true).run Yba.prog w = .ok (.tuple #[.pointer none, .bool false]) w := by kernel_rfl
theorem ta62_62 (a : Option Addr) (w : World) : (Instr.typeAssert (.iface 62 (.pointer a)) 46 62 true).run Yba.prog w = .ok (.tuple #[.pointer a, .bool true]) w := by kernel_rfl

/-- WHAT A RUN LEAVES. -/
def Fin (g : Gh) (wp w : World) (es : List (List Int)) (bs : List Nat) (sb : Nat) (all : List (List Int)) (w' : World) : Prop :=
  ∃ mv' bl' bs', Inv g wp w' mv' bl' (es ++ all) (bs ++ bs') ∧ (∀ b ∈ bs', w.heap.size ≤ b) ∧ Frm g sb w w'

theorem Fin.from {g : Gh} {wp w wr w' : World} {es : List (List Int)} {bs : List Nat} {sb : Nat} {all : List (List Int)} (hF : Frm g sb w wr) (hP : g.P1 ≤ w.heap.size) (h : Fin g wp wr es bs sb all w') : Fin g wp w es bs sb all w' := by
  obtain ⟨mv, bl, bs', h1, h2, h3⟩ := h
  exact ⟨mv, bl, bs', h1, fun b hb => Nat.le_trans hF.size (h2 b hb), hF.step h3 hP⟩

section
variable {ops : Nat → O5} {q : Nat} {st s : List Int} {f : Fm} {fs : List Fm}
theorem run_els {c : Nat} {v : Int} (he : f.els = some (c, v)) : runP ops (q + 1) st (f :: fs) = runP ops q (st.set c v) (⟨none, 0, 0⟩ :: fs) := by rw [runP]; simp only [he]
theorem run_stuck {r : Nat} (he : f.els = none) (hi : f.i < f.hi) (hs : stuck (ops f.i) st = some r) : runP ops (q + 1) st (f :: fs) = runP ops q (st.set r 0) (f :: fs) ++ (runP ops q (st.set r 1) (f :: fs) ++ runP ops q (st.set r 2) (f :: fs)) := by
  rw [runP]; simp only [he, if_neg (Nat.not_le.2 hi), hs]
theorem run_act (he : f.els = none) (hi : f.i < f.hi) (hs : stuck (ops f.i) st = none) (hk : ¬ kd (ops f.i) = 4) (ha : act (ops f.i) st = some s) : runP ops (q + 1) st (f :: fs) = runP ops q s (⟨none, f.i + 1, f.hi⟩ :: fs) := by
  rw [runP]; simp only [he, if_neg (Nat.not_le.2 hi), hs, if_neg hk, ha]
theorem run_fail (he : f.els = none) (hi : f.i < f.hi) (hs : stuck (ops f.i) st = none) (hk : ¬ kd (ops f.i) = 4) (ha : act (ops f.i) st = none) : runP ops (q + 1) st (f :: fs) = [] := by
  rw [runP]; simp only [he, if_neg (Nat.not_le.2 hi), hs, if_neg hk, ha]
theorem run_then (he : f.els = none) (hi : f.i < f.hi) (hs : stuck (ops f.i) st = none) (hk : kd (ops f.i) = 4) (ha : st.getD (cA (ops f.i)) 0 = vl (ops f.i)) :
    runP ops (q + 1) st (f :: fs) = runP ops q st (⟨none, f.i + 1, f.i + 1 + ln (ops f.i) f.i f.hi⟩ :: ⟨none, f.i + 1 + ln (ops f.i) f.i f.hi, f.hi⟩ :: fs) := by
  rw [runP]; simp only [he, if_neg (Nat.not_le.2 hi), hs, if_pos hk, if_pos ha]
theorem run_else (he : f.els = none) (hi : f.i < f.hi) (hs : stuck (ops f.i) st = none) (hk : kd (ops f.i) = 4) (ha : ¬ st.getD (cA (ops f.i)) 0 = vl (ops f.i)) :
    runP ops (q + 1) st (f :: fs) = runP ops q st (⟨some (cB (ops f.i), (vl (ops f.i) + 1) % 3), 0, 0⟩ :: ⟨none, f.i + 1 + ln (ops f.i) f.i f.hi, f.hi⟩ :: fs) := by
  rw [runP]; simp only [he, if_neg (Nat.not_le.2 hi), hs, if_pos hk, if_neg ha]
theorem nx_plain {hi i : Nat} (hk : ¬ kd (ops i) = 4) : nx ops hi i = i + 1 := by unfold nx; rw [if_neg hk]
theorem nx_if {hi i : Nat} (hk : kd (ops i) = 4) : nx ops hi i = i + 1 + ln (ops i) i hi := by unfold nx; rw [if_pos hk]
end

/-- The cells that an operation reads. -/
theorem stuck_a {o : O5} {st : List Int} (k : kd o = 2 ∨ kd o = 4 ∨ kd o = 5) : (st.getD (cA o) 0 = -1 → stuck o st = some (cA o)) ∧ (¬ st.getD (cA o) 0 = -1 → stuck o st = none) := by
  have h0 : ¬ kd o = 0 := by omega
  have h1 : ¬ (kd o = 1 ∨ kd o = 3) := by omega
  unfold stuck
  rw [if_neg h0, if_neg h1]
  exact ⟨fun h => if_pos h, fun h => if_neg h⟩
theorem stuck_b {o : O5} {st : List Int} (k : kd o = 1 ∨ kd o = 3) : (st.getD (cB o) 0 = -1 → stuck o st = some (cB o)) ∧ (¬ st.getD (cB o) 0 = -1 → stuck o st = none) := by
  have h0 : ¬ kd o = 0 := by omega
  unfold stuck
  rw [if_neg h0, if_pos k]
  exact ⟨fun h => if_pos h, fun h => if_neg h⟩

/-- The open cell at which a block stops: what is left is the three runs. -/
theorem RS.stop {g : Gh} {wp : World} {ops : Nat → O5} {w : World} {es : List (List Int)} {bs : List Nat} {sb cap : Nat} {all : List (List Int)} {q r : Nat} {st : List Int} {f : Fm} {fs : List Fm} {bl : Int} {wr wr' w' : World}
    (h : RS g wp ops w es bs sb cap all (q + 1) st (f :: fs) bl wr) (hP : g.P1 ≤ w.heap.size) (hF : Frm g sb wr wr') (he : f.els = none) (hi : f.i < f.hi) (hs : stuck (ops f.i) st = some r)
    (hX : Fin g wp wr' es bs sb (runP ops q (st.set r 0) (f :: fs) ++ (runP ops q (st.set r 1) (f :: fs) ++ runP ops q (st.set r 2) (f :: fs))) w') : Fin g wp w es bs sb all w' := by
  rw [← run_stuck he hi hs, h.eq] at hX
  exact hX.from (h.frm.step hF hP) hP

/-- A plain operation is done. -/
theorem RS.acted {g : Gh} {wp : World} {ops : Nat → O5} {w : World} {es : List (List Int)} {bs : List Nat} {sb cap : Nat} {all : List (List Int)} {q : Nat} {st s : List Int} {f : Fm} {fs : List Fm} {bl bl' : Int} {wr wr' : World}
    (h : RS g wp ops w es bs sb cap all (q + 1) st (f :: fs) bl wr) (hP : g.P1 ≤ w.heap.size) (he : f.els = none) (hi : f.i < f.hi) (hs : stuck (ops f.i) st = none) (hk : ¬ kd (ops f.i) = 4) (ha : act (ops f.i) st = some s)
    (hI : Inv g wp wr' (.slice (some ⟨sb, 0, none⟩) 4 cap) bl' es bs) (hS : St wr' sb s) (hF : Frm g sb wr wr') : Hid (RS g wp ops w es bs sb cap all q s (⟨none, f.i + 1, f.hi⟩ :: fs) bl' wr') := by
  obtain ⟨h1, h2⟩ := act_ok h.ok ha hs
  refine h.next hP hI hS h1 h2 rfl hF ?_ (run_act he hi hs hk ha)
  unfold wt
  simp only [he, Option.isSome_none]
  simp
  omega

/-- An operation that requires what is not so. -/
theorem RS.failed {g : Gh} {wp : World} {ops : Nat → O5} {w : World} {es : List (List Int)} {bs : List Nat} {sb cap : Nat} {all : List (List Int)} {q : Nat} {st : List Int} {f : Fm} {fs : List Fm} {bl bl' : Int} {wr wr' : World}
    (h : RS g wp ops w es bs sb cap all (q + 1) st (f :: fs) bl wr) (hP : g.P1 ≤ w.heap.size) (he : f.els = none) (hi : f.i < f.hi) (hs : stuck (ops f.i) st = none) (hk : ¬ kd (ops f.i) = 4) (ha : act (ops f.i) st = none)
    (hI : Inv g wp wr' (.slice (some ⟨sb, 0, none⟩) 4 cap) bl' es bs) (hF : Frm g sb wr wr') : Hid (Fin g wp w es bs sb all wr') := by
  have e : all = [] := by rw [← h.eq, run_fail he hi hs hk ha]
  subst e
  exact ⟨_, bl', [], by simpa using hI, by simp, h.frm.step hF hP⟩

theorem act0 {o : O5} {st : List Int} (h : kd o = 0) : act o st = some (st.set (cA o) (vl o)) ∧ stuck o st = none := by unfold act stuck; rw [if_pos h, if_pos h]; exact ⟨rfl, rfl⟩
theorem act1 {o : O5} {st : List Int} (h : kd o = 1) : act o st = some (st.set (cA o) (st.getD (cB o) 0)) := by unfold act; rw [if_neg (by omega), if_pos h]
theorem act2 {o : O5} {st : List Int} (h : kd o = 2) : act o st = if st.getD (cA o) 0 = vl o then some st else none := by unfold act; rw [if_neg (by omega), if_neg (by omega), if_pos h]
theorem act3 {o : O5} {st : List Int} (h : kd o = 3) : act o st = some (st.set (cA o) (if st.getD (cB o) 0 = vl o then 1 else 0)) := by unfold act; rw [if_neg (by omega), if_neg (by omega), if_neg (by omega), if_pos h]
theorem act5 {o : O5} {st : List Int} (h : kd o = 5) : act o st = if st.getD (cA o) 0 = vl o then none else some st := by unfold act; rw [if_neg (by omega), if_neg (by omega), if_neg (by omega), if_neg (by omega)]

theorem says_true (x v : Int) : says x v true = if x = v then 2 else 0 := by
  unfold says
  by_cases h : x = v
  · rw [if_pos h]; simp [h]
  · rw [if_neg h]; simp [h]
theorem says_false (x v : Int) : says x v false = if x = v then 0 else 2 := by
  unfold says
  by_cases h : x = v
  · rw [if_pos h]; simp [h]
  · rw [if_neg h]; simp [h]

/-- What is left of a block's slice. -/
theorem body_drop {g : Gh} {wp : World} {ops : Nat → O5} {f : Fm} {ys : List Value} {b o c k : Nat} (hb : g.P0 ≤ b ∧ b < g.P1) (hc : ys.length ≤ c) (hm : c ≤ 9223372036854775807) (hcell : ∀ j, j < ys.length → wp.cell? ⟨b, o + j, none⟩ = some (ys.getD j .nilIface)) (hk : k ≤ ys.length)
    (hR : Rem g.P0 g.P1 wp ops f (ys.drop k)) : Body g.P0 g.P1 wp ops (.slice (some ⟨b, o + k, none⟩) (ys.length - k) (c - k)) f := ⟨_, slc_drop hb hc (by unfold maxLen; exact hm) hcell hk, hR⟩
theorem body_end {g : Gh} {wp : World} {ops : Nat → O5} {f : Fm} {ys : List Value} {a : Option Addr} {k : Nat} (hk : ys.length = k)
    (hR : Rem g.P0 g.P1 wp ops f (ys.drop k)) : Body g.P0 g.P1 wp ops (.slice a 0 0) f := by
  refine ⟨_, ?_, hR⟩
  rw [List.drop_eq_nil_of_le (by omega)]
  exact slc_empty (Nat.zero_le _)

/-- The run of a chosen branch. -/
theorem RS.branch {g : Gh} {wp : World} {ops : Nat → O5} {w : World} {es : List (List Int)} {bs : List Nat} {sb cap : Nat} {all : List (List Int)} {q : Nat} {st : List Int} {f f1 f2 : Fm} {fs : List Fm} {bl bl' : Int} {wr wr' : World} {bv bv2 : Value} {ra : Option Addr}
    (h : RS g wp ops w es bs sb cap all (q + 1) st (f :: fs) bl wr) (hP : g.P1 ≤ w.heap.size) (hFr : Free g sb bs) (HR : RunOK g wp ops q) (hI : Inv g wp wr' (.slice (some ⟨sb, 0, none⟩) 4 cap) bl' es bs) (hS : St wr' sb st) (hF : Frm g sb wr wr')
    (hB : Body g.P0 g.P1 wp ops bv f1) (hB2 : Body g.P0 g.P1 wp ops bv2 f2) (hC : Conts g wp ops wr fs (.pointer ra)) (hE : ∀ c v, f1.els = some (c, v) → c < 4 ∧ 0 ≤ v ∧ v ≤ 2) (he2 : f2.els = none) (hw : wt f1 + wt f2 < wt f) (heq : runP ops (q + 1) st (f :: fs) = runP ops q st (f1 :: f2 :: fs)) :
    Calls Yba.prog 11 #[.pointer (some ⟨g.rb, 0, none⟩), .slice (some ⟨sb, 0, none⟩) 4 cap, bv, .pointer (some ⟨wr'.heap.size, 0, none⟩)] (wr'.alloc (.cells #[bv2, .pointer ra] 59)) fun e w' => e = .returned (.tuple #[]) ∧ Hid (Fin g wp w es bs sb all w') := by
  have hg : wr'.grownBy (wr'.alloc (.cells #[bv2, .pointer ra] 59)) none := World.grownBy_alloc _ _ _
  have hsz : g.P1 ≤ wr'.heap.size := hI.sz
  have hsb : sb < wr'.heap.size := by obtain ⟨t, ht⟩ := hS; exact lt_of_block ht
  have hF2 : Frm g sb wr (wr'.alloc (.cells #[bv2, .pointer ra] 59)) := hF.step (Frm.grown hg hsz) (Nat.le_trans hP h.frm.size)
  refine (HR _ _ bl' es bs sb cap st bv _ f1 (f2 :: fs) (hI.grown hg) (hS.other (Below.heap_alloc _ _ _ hsb)) hFr h.ok hB ⟨wr'.heap.size, bv2, .pointer ra, rfl, hsz, heap_alloc_new _ _, hB2, hC.frm h.stt hF2⟩ ?_ ?_ ?_ h.len).mono ?_
  · intro f' hf' c v hv
    rcases List.mem_cons.1 hf' with rfl | hf'
    · exact hE c v hv
    · rcases List.mem_cons.1 hf' with rfl | hf'
      · rw [he2] at hv; cases hv
      · exact h.fok f' (List.mem_cons_of_mem _ hf') c v hv
  · have h1 := h.hmu
    unfold mu at h1 ⊢
    simp only [tot] at h1 ⊢
    rw [← Nat.add_assoc (wt f1)]
    have h2 : opn st * 2000 + (wt f1 + wt f2 + tot fs) < opn st * 2000 + (wt f + tot fs) := Nat.add_lt_add_left (Nat.add_lt_add_right hw _) _
    exact Nat.lt_of_lt_of_le h2 (Nat.le_of_lt_succ h1)
  · have h1 := h.htot
    simp only [tot] at h1 ⊢
    omega
  · rintro e w' ⟨rfl, mv', bl2, bs', h1, h2, h3⟩
    refine ⟨rfl, ?_⟩
    rw [← heq, h.eq] at h1
    exact Fin.from (h.frm.step hF2 hP) hP ⟨mv', bl2, bs', h1, h2, h3⟩
end Go.Proofs.Ybulkbvqe
