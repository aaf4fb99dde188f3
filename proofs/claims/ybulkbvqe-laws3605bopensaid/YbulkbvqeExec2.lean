/-
  WALKS for seat b3605a: the model's run.
-/
import Derived.Test.YbulkbvqeExec
import Derived.Test.YbulkbvqeRunParts
namespace Go.Proofs.Ybulkbvqe
open Go.ChangeShapes Go.WideShapes Go.ChangeAt Go.RowKit
set_option linter.unusedVariables false

set_option maxHeartbeats 1000000 in
set_option maxRecDepth 100000 in
theorem exec_step (ops : Nat → O5) (D : Nat) (IH : ExecOK ops D) : ExecOK ops (D + 1) := by
  intro w ao n c lo hi xb cap st hO hne hn hlo hhi hD hS hl
  have HO := hide hO
  have HIH := hide IH
  have HNE := hide hne
  have E0 : Hid (Exs w w ops lo hi lo xb st st) := ⟨World.grownBy.refl w _, hS, hl, rfl⟩
  clear hO IH hne hS
  go_enter Yba.func6, Yba.ntmps6
  go_wp2_with fail
  go_loopw [9] (fun iv wr => ∃ i s, lo ≤ i ∧ i ≤ hi ∧ iv = .int .i64 (i : Nat) ∧ Hid (Exs w wr ops lo hi i xb st s)) (fun iv _ => hi - (intOf iv).toNat)
  case atStart => exact ⟨lo, st, Nat.le_refl _, hlo, rfl, E0⟩
  case round =>
    obtain ⟨i, s, hil, hih, rfl, E1⟩ := hrel
    clear E0
    by_cases hlt : i < hi
    · have hlt' : (i : Int) < (hi : Int) := by omega
      have HO1 : Hid (OpsAt wr ao n ops) := HO.out.turned HNE.out E1.out.gr
      obtain h0 | ⟨b, o, rfl, hb, hc⟩ := HO1.out
      · omega
      obtain ⟨c0, c1, c2, c3, c4⟩ := hc i (by omega)
      have hin : (i : Int) < (n : Int) := by omega
      clear hc
      have eV : ((ops i).v : Int) % 3 = vl (ops i) := rfl
      have eA : ((ops i).c : Int) % 4 = (cA (ops i) : Nat) := rfl
      have eB : ((ops i).d : Int) % 4 = (cB (ops i) : Nat) := rfl
      have hA4 := cA_lt (ops i)
      have hB4 := cB_lt (ops i)
      have hA4' : ((cA (ops i) : Nat) : Int) < 4 := by omega
      have hB4' : ((cB (ops i) : Nat) : Int) < 4 := by omega
      have hvl := vl_bd (ops i)
      have hsl := E1.out.len
      have hA5 : cA (ops i) < s.length := by omega
      have hB5 : cB (ops i) < s.length := by omega
      have hxs : xb < wr.heap.size := by obtain ⟨t, ht⟩ := E1.out.stt; exact lt_of_block ht
      obtain ⟨x1, f1⟩ := E1.out.stt.cell (cA (ops i)) hA5
      obtain ⟨x2, f2⟩ := E1.out.stt.cell (cB (ops i)) hB5
      have HA5 := hide hA5
      have HB5 := hide hB5
      obtain ⟨X1, hX1⟩ : ∃ X1, X1 = s.getD (cA (ops i)) 0 := ⟨_, rfl⟩
      obtain ⟨X2, hX2⟩ : ∃ X2, X2 = s.getD (cB (ops i)) 0 := ⟨_, rfl⟩
      rw [← hX1] at x1
      rw [← hX2] at x2
      have HX1 := hide hX1
      have HX2 := hide hX2
      clear hA5 hB5 hX1 hX2
      by_cases hk4 : kd (ops i) = 4
      · have hk : ((ops i).k : Int) % 6 = 4 := by unfold kd at hk4; omega
        have hle := ln_le (ops i) i hi
        by_cases hv : X1 = vl (ops i)
        · have HV : Hid (s.getD (cA (ops i)) 0 = vl (ops i)) := HX1.out.symm.trans hv
          rw [hv] at x1
          clear hv
          by_cases hbig : hi - i - 1 < (ops i).l % 4
          · have hb1 : (hi : Int) - (i : Int) - 1 < ((ops i).l : Int) % 4 := by omega
            have hL : ln (ops i) i hi = hi - i - 1 := by unfold ln; rw [if_pos hbig]
            have hE : (i : Int) + 1 + ((hi : Int) - (i : Int) - 1) = ((i + 1 + ln (ops i) i hi : Nat) : Int) := by rw [hL]; omega
            have HL := hide hL
            clear hL
            go_wp2_with fail
            refine (HIH.out _ (some ⟨b, o, none⟩) n c (i + 1) (i + 1 + ln (ops i) i hi) xb cap s (HO1.out.alloc _) HNE.out hn (by omega) (by omega) (by omega) (E1.out.stt.alloc _) hsl).mono ?_
            rintro e w2 ⟨hg2, ⟨s2, hr2, rfl, hl2, hS2⟩ | ⟨hr2, rfl⟩⟩
            · have E2 := E1.out.next (i' := i + 1 + ln (ops i) i hi) ((World.grownBy_alloc _ _ _).trans hg2) hS2 hl2 (by rw [ex_then hlt hk4 HV.out, hr2]; rfl)
              clear hg2 hr2 hS2 E1 x1 x2 f1 f2
              go_wp2_with fail
              go_roundw
              case rel => exact ⟨i + 1 + ln (ops i) i hi, s2, by omega, by omega, by have := HL.out; go_num, E2⟩
              case measure => have := HL.out; simp [intOf]; omega
            · have HX : Hid (ExFin w w2 xb (ex ops lo hi st) (.returned (.bool false))) := ⟨(E1.out.gr.trans (World.grownBy_alloc _ _ _)).trans hg2, .inr ⟨by rw [E1.out.eq, ex_then hlt hk4 HV.out, hr2]; rfl, rfl⟩⟩
              clear hg2 hr2
              go_wp2_with fail
              go_ret
              exact HX.out
          · have hb1 : ¬ (hi : Int) - (i : Int) - 1 < ((ops i).l : Int) % 4 := by omega
            have hL : ln (ops i) i hi = (ops i).l % 4 := by unfold ln; rw [if_neg hbig]
            have hE : (i : Int) + 1 + ((ops i).l : Int) % 4 = ((i + 1 + ln (ops i) i hi : Nat) : Int) := by rw [hL]; omega
            have HL := hide hL
            clear hL
            go_wp2_with fail
            refine (HIH.out _ (some ⟨b, o, none⟩) n c (i + 1) (i + 1 + ln (ops i) i hi) xb cap s (HO1.out.alloc _) HNE.out hn (by omega) (by omega) (by omega) (E1.out.stt.alloc _) hsl).mono ?_
            rintro e w2 ⟨hg2, ⟨s2, hr2, rfl, hl2, hS2⟩ | ⟨hr2, rfl⟩⟩
            · have E2 := E1.out.next (i' := i + 1 + ln (ops i) i hi) ((World.grownBy_alloc _ _ _).trans hg2) hS2 hl2 (by rw [ex_then hlt hk4 HV.out, hr2]; rfl)
              clear hg2 hr2 hS2 E1 x1 x2 f1 f2
              go_wp2_with fail
              go_roundw
              case rel => exact ⟨i + 1 + ln (ops i) i hi, s2, by omega, by omega, by have := HL.out; go_num, E2⟩
              case measure => have := HL.out; simp [intOf]; omega
            · have HX : Hid (ExFin w w2 xb (ex ops lo hi st) (.returned (.bool false))) := ⟨(E1.out.gr.trans (World.grownBy_alloc _ _ _)).trans hg2, .inr ⟨by rw [E1.out.eq, ex_then hlt hk4 HV.out, hr2]; rfl, rfl⟩⟩
              clear hg2 hr2
              go_wp2_with fail
              go_ret
              exact HX.out
        · have HV : Hid (¬ s.getD (cA (ops i)) 0 = vl (ops i)) := fun h => hv (HX1.out.trans h)
          have hvb : (X1 == vl (ops i)) = false := by simpa using hv
          clear hv
          by_cases hbig : hi - i - 1 < (ops i).l % 4
          · have hb1 : (hi : Int) - (i : Int) - 1 < ((ops i).l : Int) % 4 := by omega
            have hL : ln (ops i) i hi = hi - i - 1 := by unfold ln; rw [if_pos hbig]
            have HL := hide hL
            clear hL
            go_wp2_with fail
            go_roundw
            case rel => exact ⟨i + 1 + ln (ops i) i hi, _, by omega, by omega, by have := HL.out; go_num, E1.out.next (grown_set hxs) ((E1.out.stt.store _ HB5.out _).alloc _) (by simp [hsl]) (ex_else hlt hk4 HV.out)⟩
            case measure => have := HL.out; simp [intOf]; omega
          · have hb1 : ¬ (hi : Int) - (i : Int) - 1 < ((ops i).l : Int) % 4 := by omega
            have hL : ln (ops i) i hi = (ops i).l % 4 := by unfold ln; rw [if_neg hbig]
            have HL := hide hL
            clear hL
            go_wp2_with fail
            go_roundw
            case rel => exact ⟨i + 1 + ln (ops i) i hi, _, by omega, by omega, by have := HL.out; go_num, E1.out.next (grown_set hxs) ((E1.out.stt.store _ HB5.out _).alloc _) (by simp [hsl]) (ex_else hlt hk4 HV.out)⟩
            case measure => have := HL.out; simp [intOf]; omega
      · obtain hk0 | hk0 | hk0 | hk0 | hk0 : kd (ops i) = 0 ∨ kd (ops i) = 1 ∨ kd (ops i) = 2 ∨ kd (ops i) = 3 ∨ kd (ops i) = 5 := by have := kd_lt (ops i); omega
        · have hk : ((ops i).k : Int) % 6 = 0 := by unfold kd at hk0; omega
          go_wp2_with fail
          go_roundw
          case rel => exact ⟨i + 1, _, by omega, hlt, by go_num, E1.out.next (grown_set hxs) ((E1.out.stt.store _ HA5.out _).alloc _) (by simp [hsl]) (ex_op hlt hk4 ((act0 hk0).1))⟩
          case measure => simp [intOf]; omega
        · have hk : ((ops i).k : Int) % 6 = 1 := by unfold kd at hk0; omega
          go_wp2_with fail
          go_roundw
          case rel => exact ⟨i + 1, _, by omega, hlt, by go_num, E1.out.next (grown_set hxs) ((E1.out.stt.store _ HA5.out _).alloc _) (by simp [hsl]) (ex_op hlt hk4 (by rw [HX2.out]; exact act1 hk0))⟩
          case measure => simp [intOf]; omega
        · have hk : ((ops i).k : Int) % 6 = 2 := by unfold kd at hk0; omega
          by_cases hv : X1 = vl (ops i)
          · have HV : Hid (s.getD (cA (ops i)) 0 = vl (ops i)) := HX1.out.symm.trans hv
            rw [hv] at x1
            clear hv
            go_wp2_with fail
            go_roundw
            case rel => exact ⟨i + 1, s, by omega, hlt, by go_num, E1.out.next (World.grownBy_alloc _ _ _) (E1.out.stt.alloc _) hsl (ex_op hlt hk4 ((act2 hk0).trans (if_pos HV.out)))⟩
            case measure => simp [intOf]; omega
          · have HV : Hid (¬ s.getD (cA (ops i)) 0 = vl (ops i)) := fun h => hv (HX1.out.trans h)
            have hvb : (X1 == vl (ops i)) = false := by simpa using hv
            clear hv
            go_wp2_with fail
            go_ret
            exact ⟨E1.out.gr.trans (World.grownBy_alloc _ _ _), .inr ⟨by rw [E1.out.eq, ex_fail hlt hk4 ((act2 hk0).trans (if_neg HV.out))], rfl⟩⟩
        · have hk : ((ops i).k : Int) % 6 = 3 := by unfold kd at hk0; omega
          by_cases hv : X2 = vl (ops i)
          · have HV : Hid (s.getD (cB (ops i)) 0 = vl (ops i)) := HX2.out.symm.trans hv
            rw [hv] at x2
            clear hv
            have HA : Hid (act (ops i) s = some (s.set (cA (ops i)) 1)) := by have h := act3 (o := ops i) (st := s) hk0; rw [if_pos HV.out] at h; exact h
            go_wp2_with fail
            go_roundw
            case rel => exact ⟨i + 1, _, by omega, hlt, by go_num, E1.out.next (grown_set hxs) ((E1.out.stt.store _ HA5.out _).alloc _) (by simp [hsl]) (ex_op hlt hk4 (HA.out))⟩
            case measure => simp [intOf]; omega
          · have HV : Hid (¬ s.getD (cB (ops i)) 0 = vl (ops i)) := fun h => hv (HX2.out.trans h)
            have hvb : (X2 == vl (ops i)) = false := by simpa using hv
            clear hv
            have HA : Hid (act (ops i) s = some (s.set (cA (ops i)) 0)) := by have h := act3 (o := ops i) (st := s) hk0; rw [if_neg HV.out] at h; exact h
            go_wp2_with fail
            go_roundw
            case rel => exact ⟨i + 1, _, by omega, hlt, by go_num, E1.out.next (grown_set hxs) ((E1.out.stt.store _ HA5.out _).alloc _) (by simp [hsl]) (ex_op hlt hk4 (HA.out))⟩
            case measure => simp [intOf]; omega
        · have hk : ((ops i).k : Int) % 6 = 5 := by unfold kd at hk0; omega
          by_cases hv : X1 = vl (ops i)
          · have HV : Hid (s.getD (cA (ops i)) 0 = vl (ops i)) := HX1.out.symm.trans hv
            rw [hv] at x1
            clear hv
            go_wp2_with fail
            go_ret
            exact ⟨E1.out.gr.trans (World.grownBy_alloc _ _ _), .inr ⟨by rw [E1.out.eq, ex_fail hlt hk4 ((act5 hk0).trans (if_pos HV.out))], rfl⟩⟩
          · have HV : Hid (¬ s.getD (cA (ops i)) 0 = vl (ops i)) := fun h => hv (HX1.out.trans h)
            have hvb : (X1 == vl (ops i)) = false := by simpa using hv
            clear hv
            go_wp2_with fail
            go_roundw
            case rel => exact ⟨i + 1, s, by omega, hlt, by go_num, E1.out.next (World.grownBy_alloc _ _ _) (E1.out.stt.alloc _) hsl (ex_op hlt hk4 ((act5 hk0).trans (if_neg HV.out)))⟩
            case measure => simp [intOf]; omega
    · obtain rfl : i = hi := by omega
      go_wp2_with fail
      go_ret
      exact ⟨E1.out.gr, .inl ⟨s, by rw [E1.out.eq, ex_done (Nat.le_refl _)], rfl, E1.out.len, E1.out.stt⟩⟩

set_option maxHeartbeats 400000 in
theorem exec_zero (ops : Nat → O5) : ExecOK ops 0 := by
  intro w ao n c lo hi xb cap st hO hne hn hlo hhi hD hS hl
  obtain rfl : lo = hi := by omega
  have HS := hide hS
  clear hO hne hS
  go_enter Yba.func6, Yba.ntmps6
  go_wp2_with fail
  go_loopw [9] (fun iv wr => iv = .int .i64 (lo : Nat) ∧ wr = w) (fun _ _ => 0)
  case atStart => exact ⟨rfl, rfl⟩
  case round =>
    obtain ⟨rfl, rfl⟩ := hrel
    go_wp2_with fail
    go_ret
    exact ⟨World.grownBy.refl _ _, .inl ⟨st, ex_done (Nat.le_refl _), rfl, hl, HS.out⟩⟩

/-- THE MODEL's CONTRACT. -/
theorem exec_all (ops : Nat → O5) : ∀ D, ExecOK ops D
  | 0 => exec_zero ops
  | D + 1 => exec_step ops D (exec_all ops D)
end Go.Proofs.Ybulkbvqe

