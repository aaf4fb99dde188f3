/-
  WALKS for seat b3605a: run.
-/
import Derived.Test.YbulkbvqeRunParts
namespace Go.Proofs.Ybulkbvqe
open Go.ChangeShapes Go.WideShapes Go.ChangeAt Go.RowKit
set_option linter.unusedVariables false

set_option maxHeartbeats 1000000 in
set_option maxRecDepth 100000 in
theorem run_step (g : Gh) (wp : World) (ops : Nat → O5) (n : Nat) (IH : ∀ m, m < n → RunOK g wp ops m) : RunOK g wp ops n := by
  intro w mv bl es bs sb cap st bv rv f fs hI hS hF hO hB hC hE hM hT hL
  obtain ⟨i1, i2, i3, i4, i5, i6, i7, i8, i9⟩ := hI.cells
  have hsf : sb ≠ g.fb ∧ sb ≠ g.rb := by obtain ⟨o1, o2, o3, o4, o5⟩ := hI.ok; have := hF.1; omega
  have R0 : Hid (RS g wp ops w es bs sb cap (runP ops n st (f :: fs)) n st (f :: fs) bl (w.setCell ⟨g.fb, 1, none⟩ (.slice (some ⟨sb, 0, none⟩) 4 cap))) :=
    ⟨hI.mut _, hS.other (Below.heap_setCell _ _ _ _ hsf.1), hO, hE, Frm.setCell (.inr (.inl rfl)) hI.ok, hM, hT, hL, rfl⟩
  have B0 := hide hB
  have C0 : Hid (Conts g wp ops (w.setCell ⟨g.fb, 1, none⟩ (.slice (some ⟨sb, 0, none⟩) 4 cap)) fs rv) := hC.frm hS (Frm.setCell (.inr (.inl rfl)) hI.ok)
  have HF := hide hF
  have HIH := hide IH
  have HG := hide hI.ok
  have HZ := hide hI.sz
  clear hI hS hF hO hB hC hE hM hT hL IH i2 i3 i5 i7 i8 i9 hsf
  generalize runP ops n st (f :: fs) = all at *
  go_enter Yba.func11, Yba.ntmps11
  go_wp2_with fail
  clear i1 i4 i6
  go_loopg [2, 3] n (fun m b r wr => m ≤ n ∧ ∃ st f fs bl, Hid (RS g wp ops w es bs sb cap all m st (f :: fs) bl wr) ∧ Hid (Body g.P0 g.P1 wp ops b f) ∧ Hid (Conts g wp ops wr fs r))
  case atStart => exact ⟨Nat.le_refl _, st, f, fs, bl, R0, B0, C0⟩
  case round =>
    obtain ⟨hmn, st1, f1, fs1, bl1, R1, B1, C1⟩ := hrel
    clear R0 B0 C0
    obtain ⟨ys, ⟨ao, cb, hu2, hyc, hcm, hys⟩, hrem⟩ := B1.out
    obtain ⟨ra, hu3⟩ := C1.out.form
    have HY := hide hys
    have HR := hide hrem
    have hcm' : cb ≤ 9223372036854775807 := by unfold maxLen at hcm; omega
    clear hys hrem B1 hcm
    subst hu2 hu3
    go_wp2_with fail
    go_loopg [8] gk (fun m i wr => m ≤ gk ∧ ∃ k st f bl, i = .int .i64 (k : Nat) ∧ k ≤ ys.length ∧ Hid (RS g wp ops w es bs sb cap all m st (f :: fs1) bl wr) ∧ Hid (Rem g.P0 g.P1 wp ops f (ys.drop k)) ∧ Hid (Conts g wp ops wr fs1 (.pointer ra)))
    case atStart => exact ⟨Nat.le_refl _, 0, st1, f1, bl1, rfl, Nat.zero_le _, R1, HR, C1⟩
    case round =>
      obtain ⟨hg1, k, st2, f2, bl2, hu8, hk, R2, M2, C2⟩ := hrel
      subst hu8
      clear R1 HR C1
      by_cases hlt : k < ys.length
      · have hlt' : (k : Int) < (ys.length : Int) := by omega
        obtain ⟨b, o, rfl, hbP, hcell⟩ : ∃ b o, ao = some ⟨b, o, none⟩ ∧ (g.P0 ≤ b ∧ b < g.P1) ∧ ∀ j, j < ys.length → wp.cell? ⟨b, o + j, none⟩ = some (ys.getD j .nilIface) := by
          rcases HY.out with h | h
          · rw [h] at hlt; simp at hlt
          · exact h
        have hck : wr.cell? ⟨b, o + k, none⟩ = some (ys.getD k .nilIface) := (World.cell?_of_block (w := wp) (a := ⟨b, o + k, none⟩) (R2.out.inv.pr b hbP.1 hbP.2)).trans (hcell k hlt)
        have hdrop : ys.drop k = ys.getD k .nilIface :: ys.drop (k + 1) := by
          rw [List.drop_eq_getElem_cons hlt]
          simp [List.getD, hlt]
        have M3 := M2.out
        rw [hdrop] at M3
        have hcl : ¬ cb = k := by omega
        have HC := hide hcell
        obtain ⟨q, hq, R3⟩ := R2.out.pos
        have HQ := hide hq
        clear hq R2
        clear hcell hdrop HY
        rcases rem_cases M3 with ⟨c, v, he, hrest, hK⟩ | ⟨he, hi, D, hSt, hRest⟩
        · -- the other block of an if
          obtain ⟨hc4, hv⟩ := R3.out.fok f2 (List.mem_cons_self ..) c v he
          obtain ⟨sm, p, hr, hy, h1⟩ := hK
          rw [hy] at hck
          have HK : Hid (SetK g.P0 g.P1 wp (.iface 62 (.pointer (some ⟨sm, 0, none⟩))) c v) := ⟨sm, p, hr, rfl, h1⟩
          clear hr hy h1 M3 HC
          have t1 := ta62_47
          have t2 := ta62_55
          have t3 := ta62_60
          have t4 := ta62_62
          go_wp2_with fail
          refine (set_yes R3.out.inv R3.out.stt HF.out R3.out.ok HK.out hc4 hv).mono ?_
          rintro e w3 ⟨rfl, hI3, hS3, hF3⟩
          have R4 : Hid (RS g wp ops w es bs sb cap all q (st2.set c v) (⟨none, 0, 0⟩ :: fs1) (-1) w3) :=
            R3.out.next HZ.out hI3 hS3 (R3.out.ok.set c v (by omega)) (opn_set_le _ _ _ (by omega)) rfl hF3 (by unfold wt; simp [he]) (run_els he)
          have C4 := hide (C2.out.frm R3.out.stt hF3)
          have M4 : Hid (Rem g.P0 g.P1 wp ops ⟨none, 0, 0⟩ (ys.drop (k + 1))) := by rw [hrest]; exact ⟨0, 0, Nat.le_refl _, rfl⟩
          clear hI3 hS3 hF3 R3 C2 M2 hrest he HK
          go_wp2_with fail
          go_roundg q
          case measure => have := HQ.out; omega
          case rel => exact ⟨by have := HQ.out; omega, k + 1, _, _, _, by go_num, hlt, R4, M4, C4⟩
        · have hA4 := cA_lt (ops f2.i)
          have hB4 := cB_lt (ops f2.i)
          have hvl := vl_bd (ops f2.i)
          have HRest := hide hRest
          clear hRest M3
          cases D with
          | zero => exact hSt.elim
          | succ D =>
          rcases hSt with ⟨hk, hK⟩ | ⟨hk, hK⟩ | ⟨hk, hK⟩ | ⟨hk, hK⟩ | ⟨hk, hK⟩ | ⟨hk, sm, fv, tv, ev, hm, hy, hbk, hEq, ⟨yt, hyt, hyt2⟩, ⟨u, hu, hu2⟩⟩
          · -- set to a constant
            have hk4 : ¬ kd (ops f2.i) = 4 := by omega
            have M4 : Hid (Rem g.P0 g.P1 wp ops ⟨none, f2.i + 1, f2.hi⟩ (ys.drop (k + 1))) := by have h := HRest.out; rw [nx_plain (by omega)] at h; exact h
            clear HRest
            obtain ⟨sm, p, hr, hy, h1⟩ := hK
            rw [hy] at hck
            have HK : Hid (SetK g.P0 g.P1 wp (.iface 62 (.pointer (some ⟨sm, 0, none⟩))) (cA (ops f2.i)) (vl (ops f2.i))) := ⟨sm, p, hr, rfl, h1⟩
            clear hr hy h1 HC
            have t47 := ta62_47
            have t55 := ta62_55
            have t60 := ta62_60
            have t62 := ta62_62
            go_wp2_with fail
            refine (set_yes R3.out.inv R3.out.stt HF.out R3.out.ok HK.out hA4 hvl).mono ?_
            rintro e w3 ⟨rfl, hI3, hS3, hF3⟩
            have R4 := R3.out.acted HZ.out he hi (act0 hk).2 hk4 (act0 hk).1 hI3 hS3 hF3
            have C4 := hide (C2.out.frm R3.out.stt hF3)
            clear hI3 hS3 hF3 R3 C2 M2
            go_wp2_with fail
            go_roundg q
            case measure => have := HQ.out; omega
            case rel => exact ⟨by have := HQ.out; omega, k + 1, _, _, _, by go_num, hlt, R4, M4, C4⟩
          · -- set to a cell
            have hk4 : ¬ kd (ops f2.i) = 4 := by omega
            obtain ⟨sm, p, hr, hy, h1⟩ := hK
            rw [hy] at hck
            have HK : Hid (SetC g.P0 g.P1 wp (.iface 62 (.pointer (some ⟨sm, 0, none⟩))) (cA (ops f2.i)) (cB (ops f2.i))) := ⟨sm, p, hr, rfl, h1⟩
            clear hr hy h1
            have t47 := ta62_47
            have t55 := ta62_55
            have t60 := ta62_60
            have t62 := ta62_62
            by_cases hx : st2.getD (cB (ops f2.i)) 0 = -1
            · have HX1 := hide hx
              clear hx
              go_wp2_with fail
              refine (copy_stop R3.out.inv R3.out.stt HF.out R3.out.ok HK.out hB4 HX1.out).mono ?_
              rintro e w3 ⟨rfl, hI3, hS3, hF3⟩
              have HI3 := hide hI3
              have HS3 := hide hS3
              have HF3 := hide hF3
              clear hI3 hS3 hF3
              go_wp2_with fail
              refine (split_any g wp ops q (HIH.out q (by have := HQ.out; omega)) w3 _ es bs sb cap (cB (ops f2.i)) st2 _ _ f2 fs1 HI3.out HS3.out HF.out.1 R3.out.ok R3.out.fok (body_drop hbP hyc hcm' HC.out (Nat.le_of_lt hlt) M2.out) (C2.out.frm R3.out.stt HF3.out) hB4 HX1.out R3.out.hmu R3.out.htot R3.out.len).mono ?_
              rintro e w4 ⟨rfl, hX⟩
              have HX := hide (RS.stop R3.out HZ.out HF3.out he hi ((stuck_b (.inl hk)).1 HX1.out) hX)
              clear hX
              go_wp2_with fail
              first | go_end0 | refine bodyPost_ret (results_none rfl _ _ _) rfl ?_
              exact ⟨rfl, HX.out⟩
            · have HX1 := hide hx
              clear hx HC
              have M4 : Hid (Rem g.P0 g.P1 wp ops ⟨none, f2.i + 1, f2.hi⟩ (ys.drop (k + 1))) := by have h := HRest.out; rw [nx_plain (by omega)] at h; exact h
              clear HRest
              go_wp2_with fail
              refine (copy_yes R3.out.inv R3.out.stt HF.out R3.out.ok HK.out hA4 hB4 HX1.out).mono ?_
              rintro e w3 ⟨rfl, hI3, hS3, hF3⟩
              have R4 := R3.out.acted HZ.out he hi ((stuck_b (.inl hk)).2 HX1.out) hk4 (act1 hk) hI3 hS3 hF3
              have C4 := hide (C2.out.frm R3.out.stt hF3)
              clear hI3 hS3 hF3 R3 C2 M2
              go_wp2_with fail
              go_roundg q
              case measure => have := HQ.out; omega
              case rel => exact ⟨by have := HQ.out; omega, k + 1, _, _, _, by go_num, hlt, R4, M4, C4⟩
          · -- require
            have hk4 : ¬ kd (ops f2.i) = 4 := by omega
            obtain ⟨sm, fv, hm, hy, hbk, hEq⟩ := hK
            rw [hy] at hck
            have c0 : wr.cell? ⟨sm, 0, none⟩ = some fv := (cell_at (k := 0) (R3.out.inv.at hm hbk) rfl).1
            have HE := hide hEq
            clear hy hbk hEq hm
            have t47 := ta47_47
            by_cases hx : st2.getD (cA (ops f2.i)) 0 = -1
            · have HX1 := hide hx
              clear hx
              go_wp2_with fail
              refine (eval_stop R3.out.inv R3.out.stt HF.out R3.out.ok HE.out hA4 HX1.out).mono ?_
              rintro e w3 ⟨rfl, hI3, hS3, hF3⟩
              have HI3 := hide hI3
              have HS3 := hide hS3
              have HF3 := hide hF3
              clear hI3 hS3 hF3
              go_wp2_with fail
              refine (split_any g wp ops q (HIH.out q (by have := HQ.out; omega)) w3 _ es bs sb cap (cA (ops f2.i)) st2 _ _ f2 fs1 HI3.out HS3.out HF.out.1 R3.out.ok R3.out.fok (body_drop hbP hyc hcm' HC.out (Nat.le_of_lt hlt) M2.out) (C2.out.frm R3.out.stt HF3.out) hA4 HX1.out R3.out.hmu R3.out.htot R3.out.len).mono ?_
              rintro e w4 ⟨rfl, hX⟩
              have HX := hide (RS.stop R3.out HZ.out HF3.out he hi ((stuck_a (.inl hk)).1 HX1.out) hX)
              clear hX
              go_wp2_with fail
              first | go_end0 | refine bodyPost_ret (results_none rfl _ _ _) rfl ?_
              exact ⟨rfl, HX.out⟩
            · have HX1 := hide hx
              clear hx HC
              by_cases hv : st2.getD (cA (ops f2.i)) 0 = vl (ops f2.i)
              · have HV := hide hv
                clear hv
                have M4 : Hid (Rem g.P0 g.P1 wp ops ⟨none, f2.i + 1, f2.hi⟩ (ys.drop (k + 1))) := by have h := HRest.out; rw [nx_plain (by omega)] at h; exact h
                clear HRest
                have HSay : Hid (says (st2.getD (cA (ops f2.i)) 0) (vl (ops f2.i)) true = 2) := hide ((says_true _ _).trans (if_pos HV.out))
                have HAct : Hid (act (ops f2.i) st2 = some st2) := (act2 hk).trans (if_pos HV.out)
                go_wp2_with fail
                refine (eval_yes R3.out.inv R3.out.stt HF.out R3.out.ok HE.out hA4 HX1.out).mono ?_
                rw [HSay.out]
                rintro e w3 ⟨rfl, hI3, hS3, hF3⟩
                have R4 := R3.out.acted HZ.out he hi ((stuck_a (.inl hk)).2 HX1.out) hk4 HAct.out hI3 hS3 hF3
                have C4 := hide (C2.out.frm R3.out.stt hF3)
                clear hI3 hS3 hF3 R3 C2 M2
                go_wp2_with fail
                go_roundg q
                case measure => have := HQ.out; omega
                case rel => exact ⟨by have := HQ.out; omega, k + 1, _, _, _, by go_num, hlt, R4, M4, C4⟩
              · have HV := hide hv
                clear hv
                have HSay : Hid (says (st2.getD (cA (ops f2.i)) 0) (vl (ops f2.i)) true = 0) := hide ((says_true _ _).trans (if_neg HV.out))
                have HAct : Hid (act (ops f2.i) st2 = none) := (act2 hk).trans (if_neg HV.out)
                go_wp2_with fail
                refine (eval_yes R3.out.inv R3.out.stt HF.out R3.out.ok HE.out hA4 HX1.out).mono ?_
                rw [HSay.out]
                rintro e w3 ⟨rfl, hI3, hS3, hF3⟩
                have HX := R3.out.failed HZ.out he hi ((stuck_a (.inl hk)).2 HX1.out) hk4 HAct.out hI3 hF3
                clear hI3 hS3 hF3
                go_wp2_with fail
                first | go_end0 | refine bodyPost_ret (results_none rfl _ _ _) rfl ?_
                exact ⟨rfl, HX.out⟩
          · -- assign
            have hk4 : ¬ kd (ops f2.i) = 4 := by omega
            obtain ⟨sm, fv, hm, hy, h1⟩ := hK
            rw [hy] at hck
            have HK : Hid (Asg g.P0 g.P1 wp (.iface 60 (.pointer (some ⟨sm, 0, none⟩))) (cA (ops f2.i)) (cB (ops f2.i)) (vl (ops f2.i))) := ⟨sm, fv, hm, rfl, h1⟩
            clear hm hy h1
            have t47 := ta60_47
            have t55 := ta60_55
            have t60 := ta60_60
            by_cases hx : st2.getD (cB (ops f2.i)) 0 = -1
            · have HX1 := hide hx
              clear hx
              go_wp2_with fail
              refine (asg_stop R3.out.inv R3.out.stt HF.out R3.out.ok HK.out hA4 hB4 HX1.out).mono ?_
              rintro e w3 ⟨rfl, hI3, hS3, hF3⟩
              have HI3 := hide hI3
              have HS3 := hide hS3
              have HF3 := hide hF3
              clear hI3 hS3 hF3
              go_wp2_with fail
              refine (split_any g wp ops q (HIH.out q (by have := HQ.out; omega)) w3 _ es bs sb cap (cB (ops f2.i)) st2 _ _ f2 fs1 HI3.out HS3.out HF.out.1 R3.out.ok R3.out.fok (body_drop hbP hyc hcm' HC.out (Nat.le_of_lt hlt) M2.out) (C2.out.frm R3.out.stt HF3.out) hB4 HX1.out R3.out.hmu R3.out.htot R3.out.len).mono ?_
              rintro e w4 ⟨rfl, hX⟩
              have HX := hide (RS.stop R3.out HZ.out HF3.out he hi ((stuck_b (.inr hk)).1 HX1.out) hX)
              clear hX
              go_wp2_with fail
              first | go_end0 | refine bodyPost_ret (results_none rfl _ _ _) rfl ?_
              exact ⟨rfl, HX.out⟩
            · have HX1 := hide hx
              clear hx HC
              have M4 : Hid (Rem g.P0 g.P1 wp ops ⟨none, f2.i + 1, f2.hi⟩ (ys.drop (k + 1))) := by have h := HRest.out; rw [nx_plain (by omega)] at h; exact h
              clear HRest
              go_wp2_with fail
              refine (asg_yes R3.out.inv R3.out.stt HF.out R3.out.ok HK.out hA4 hB4 HX1.out).mono ?_
              rintro e w3 ⟨rfl, hI3, hS3, hF3⟩
              have R4 := R3.out.acted HZ.out he hi ((stuck_b (.inr hk)).2 HX1.out) hk4 (act3 hk) hI3 hS3 hF3
              have C4 := hide (C2.out.frm R3.out.stt hF3)
              clear hI3 hS3 hF3 R3 C2 M2
              go_wp2_with fail
              go_roundg q
              case measure => have := HQ.out; omega
              case rel => exact ⟨by have := HQ.out; omega, k + 1, _, _, _, by go_num, hlt, R4, M4, C4⟩
          · -- forbid
            have hk4 : ¬ kd (ops f2.i) = 4 := by omega
            obtain ⟨sm, fv, hm, hy, hbk, hEq⟩ := hK
            rw [hy] at hck
            have c0 : wr.cell? ⟨sm, 0, none⟩ = some fv := (cell_at (k := 0) (R3.out.inv.at hm hbk) rfl).1
            have HE := hide hEq
            clear hy hbk hEq hm
            have t47 := ta47_47
            by_cases hx : st2.getD (cA (ops f2.i)) 0 = -1
            · have HX1 := hide hx
              clear hx
              go_wp2_with fail
              refine (eval_stop R3.out.inv R3.out.stt HF.out R3.out.ok HE.out hA4 HX1.out).mono ?_
              rintro e w3 ⟨rfl, hI3, hS3, hF3⟩
              have HI3 := hide hI3
              have HS3 := hide hS3
              have HF3 := hide hF3
              clear hI3 hS3 hF3
              go_wp2_with fail
              refine (split_any g wp ops q (HIH.out q (by have := HQ.out; omega)) w3 _ es bs sb cap (cA (ops f2.i)) st2 _ _ f2 fs1 HI3.out HS3.out HF.out.1 R3.out.ok R3.out.fok (body_drop hbP hyc hcm' HC.out (Nat.le_of_lt hlt) M2.out) (C2.out.frm R3.out.stt HF3.out) hA4 HX1.out R3.out.hmu R3.out.htot R3.out.len).mono ?_
              rintro e w4 ⟨rfl, hX⟩
              have HX := hide (RS.stop R3.out HZ.out HF3.out he hi ((stuck_a (.inr (.inr hk))).1 HX1.out) hX)
              clear hX
              go_wp2_with fail
              first | go_end0 | refine bodyPost_ret (results_none rfl _ _ _) rfl ?_
              exact ⟨rfl, HX.out⟩
            · have HX1 := hide hx
              clear hx HC
              by_cases hv : st2.getD (cA (ops f2.i)) 0 = vl (ops f2.i)
              · have HV := hide hv
                clear hv
                have HSay : Hid (says (st2.getD (cA (ops f2.i)) 0) (vl (ops f2.i)) false = 0) := hide ((says_false _ _).trans (if_pos HV.out))
                have HAct : Hid (act (ops f2.i) st2 = none) := (act5 hk).trans (if_pos HV.out)
                go_wp2_with fail
                refine (eval_yes R3.out.inv R3.out.stt HF.out R3.out.ok HE.out hA4 HX1.out).mono ?_
                rw [HSay.out]
                rintro e w3 ⟨rfl, hI3, hS3, hF3⟩
                have HX := R3.out.failed HZ.out he hi ((stuck_a (.inr (.inr hk))).2 HX1.out) hk4 HAct.out hI3 hF3
                clear hI3 hS3 hF3
                go_wp2_with fail
                first | go_end0 | refine bodyPost_ret (results_none rfl _ _ _) rfl ?_
                exact ⟨rfl, HX.out⟩
              · have HV := hide hv
                clear hv
                have M4 : Hid (Rem g.P0 g.P1 wp ops ⟨none, f2.i + 1, f2.hi⟩ (ys.drop (k + 1))) := by have h := HRest.out; rw [nx_plain (by omega)] at h; exact h
                clear HRest
                have HSay : Hid (says (st2.getD (cA (ops f2.i)) 0) (vl (ops f2.i)) false = 2) := hide ((says_false _ _).trans (if_neg HV.out))
                have HAct : Hid (act (ops f2.i) st2 = some st2) := (act5 hk).trans (if_neg HV.out)
                go_wp2_with fail
                refine (eval_yes R3.out.inv R3.out.stt HF.out R3.out.ok HE.out hA4 HX1.out).mono ?_
                rw [HSay.out]
                rintro e w3 ⟨rfl, hI3, hS3, hF3⟩
                have R4 := R3.out.acted HZ.out he hi ((stuck_a (.inr (.inr hk))).2 HX1.out) hk4 HAct.out hI3 hS3 hF3
                have C4 := hide (C2.out.frm R3.out.stt hF3)
                clear hI3 hS3 hF3 R3 C2 M2
                go_wp2_with fail
                go_roundg q
                case measure => have := HQ.out; omega
                case rel => exact ⟨by have := HQ.out; omega, k + 1, _, _, _, by go_num, hlt, R4, M4, C4⟩
          · -- if
            rw [hy] at hck
            have c0 : wr.cell? ⟨sm, 0, none⟩ = some fv := (cell_at (k := 0) (R3.out.inv.at hm hbk) rfl).1
            have HE := hide hEq
            have HBk := hide hbk
            have HT : Hid (Body g.P0 g.P1 wp ops tv ⟨none, f2.i + 1, f2.i + 1 + ln (ops f2.i) f2.i f2.hi⟩) := ⟨yt, hyt, D, _, Nat.le_refl _, hyt2⟩
            have HL : Hid (Body g.P0 g.P1 wp ops ev ⟨some (cB (ops f2.i), (vl (ops f2.i) + 1) % 3), 0, 0⟩) := ⟨[u], hu, u, rfl, hu2⟩
            have M4 : Hid (Rem g.P0 g.P1 wp ops ⟨none, f2.i + 1 + ln (ops f2.i) f2.i f2.hi, f2.hi⟩ (ys.drop (k + 1))) := by have h := HRest.out; rw [nx_if hk] at h; exact h
            have hln := ln_le (ops f2.i) f2.i f2.hi
            clear hy hbk hEq hyt hyt2 hu hu2 HRest
            have t47 := ta55_47
            have t55 := ta55_55
            by_cases hx : st2.getD (cA (ops f2.i)) 0 = -1
            · have HX1 := hide hx
              clear hx
              go_wp2_with fail
              refine (eval_stop R3.out.inv R3.out.stt HF.out R3.out.ok HE.out hA4 HX1.out).mono ?_
              rintro e w3 ⟨rfl, hI3, hS3, hF3⟩
              have HI3 := hide hI3
              have HS3 := hide hS3
              have HF3 := hide hF3
              clear hI3 hS3 hF3
              go_wp2_with fail
              refine (split_any g wp ops q (HIH.out q (by have := HQ.out; omega)) w3 _ es bs sb cap (cA (ops f2.i)) st2 _ _ f2 fs1 HI3.out HS3.out HF.out.1 R3.out.ok R3.out.fok (body_drop hbP hyc hcm' HC.out (Nat.le_of_lt hlt) M2.out) (C2.out.frm R3.out.stt HF3.out) hA4 HX1.out R3.out.hmu R3.out.htot R3.out.len).mono ?_
              rintro e w4 ⟨rfl, hX⟩
              have HX := hide (RS.stop R3.out HZ.out HF3.out he hi ((stuck_a (.inr (.inl hk))).1 HX1.out) hX)
              clear hX
              go_wp2_with fail
              first | go_end0 | refine bodyPost_ret (results_none rfl _ _ _) rfl ?_
              exact ⟨rfl, HX.out⟩
            · have HX1 := hide hx
              clear hx
              by_cases hv : st2.getD (cA (ops f2.i)) 0 = vl (ops f2.i)
              · have HV := hide hv
                clear hv
                have HSay : Hid (says (st2.getD (cA (ops f2.i)) 0) (vl (ops f2.i)) true = 2) := hide ((says_true _ _).trans (if_pos HV.out))
                go_wp2_with fail
                refine (eval_yes R3.out.inv R3.out.stt HF.out R3.out.ok HE.out hA4 HX1.out).mono ?_
                rw [HSay.out]
                rintro e w3 ⟨rfl, hI3, hS3, hF3⟩
                have c3 : w3.cell? ⟨sm, 1, none⟩ = some tv := (cell_at (k := 1) (hI3.at hm HBk.out) rfl).1
                have HI3 := hide hI3
                have HS3 := hide hS3
                have HF3 := hide hF3
                clear hI3 hS3 hF3
                by_cases hend : cb = k + 1
                · have hend' : ys.length = k + 1 := by omega
                  go_wp2_with fail
                  refine (R3.out.branch HZ.out HF.out (HIH.out q (by have := HQ.out; omega)) HI3.out HS3.out HF3.out HT.out (body_end hend' M4.out) C2.out (by intro c v h; cases h) rfl (by unfold wt; simp [he]; omega) (run_then he hi ((stuck_a (.inr (.inl hk))).2 HX1.out) hk HV.out)).mono ?_
                  rintro e w4 ⟨rfl, HX⟩
                  go_wp2_with fail
                  first | go_end0 | refine bodyPost_ret (results_none rfl _ _ _) rfl ?_
                  exact ⟨rfl, HX.out⟩
                · have hend' : ¬ (cb : Int) = (k : Int) + 1 := by omega
                  go_wp2_with fail
                  refine (R3.out.branch HZ.out HF.out (HIH.out q (by have := HQ.out; omega)) HI3.out HS3.out HF3.out HT.out (body_drop (k := k + 1) hbP hyc hcm' HC.out hlt M4.out) C2.out (by intro c v h; cases h) rfl (by unfold wt; simp [he]; omega) (run_then he hi ((stuck_a (.inr (.inl hk))).2 HX1.out) hk HV.out)).mono ?_
                  rintro e w4 ⟨rfl, HX⟩
                  go_wp2_with fail
                  first | go_end0 | refine bodyPost_ret (results_none rfl _ _ _) rfl ?_
                  exact ⟨rfl, HX.out⟩
              · have HV := hide hv
                clear hv
                have HSay : Hid (says (st2.getD (cA (ops f2.i)) 0) (vl (ops f2.i)) true = 0) := hide ((says_true _ _).trans (if_neg HV.out))
                go_wp2_with fail
                refine (eval_yes R3.out.inv R3.out.stt HF.out R3.out.ok HE.out hA4 HX1.out).mono ?_
                rw [HSay.out]
                rintro e w3 ⟨rfl, hI3, hS3, hF3⟩
                have c3 : w3.cell? ⟨sm, 2, none⟩ = some ev := (cell_at (k := 2) (hI3.at hm HBk.out) rfl).1
                have HI3 := hide hI3
                have HS3 := hide hS3
                have HF3 := hide hF3
                clear hI3 hS3 hF3
                by_cases hend : cb = k + 1
                · have hend' : ys.length = k + 1 := by omega
                  go_wp2_with fail
                  refine (R3.out.branch HZ.out HF.out (HIH.out q (by have := HQ.out; omega)) HI3.out HS3.out HF3.out HL.out (body_end hend' M4.out) C2.out (by intro c v h; cases h; exact ⟨hB4, by omega⟩) rfl (by unfold wt; simp [he]; omega) (run_else he hi ((stuck_a (.inr (.inl hk))).2 HX1.out) hk HV.out)).mono ?_
                  rintro e w4 ⟨rfl, HX⟩
                  go_wp2_with fail
                  first | go_end0 | refine bodyPost_ret (results_none rfl _ _ _) rfl ?_
                  exact ⟨rfl, HX.out⟩
                · have hend' : ¬ (cb : Int) = (k : Int) + 1 := by omega
                  go_wp2_with fail
                  refine (R3.out.branch HZ.out HF.out (HIH.out q (by have := HQ.out; omega)) HI3.out HS3.out HF3.out HL.out (body_drop (k := k + 1) hbP hyc hcm' HC.out hlt M4.out) C2.out (by intro c v h; cases h; exact ⟨hB4, by omega⟩) rfl (by unfold wt; simp [he]; omega) (run_else he hi ((stuck_a (.inr (.inl hk))).2 HX1.out) hk HV.out)).mono ?_
                  rintro e w4 ⟨rfl, HX⟩
                  go_wp2_with fail
                  first | go_end0 | refine bodyPost_ret (results_none rfl _ _ _) rfl ?_
                  exact ⟨rfl, HX.out⟩
      · -- the block is done
        have hd : ys.drop k = [] := List.drop_eq_nil_of_le (by omega)
        obtain ⟨he, hhi⟩ : f2.els = none ∧ f2.hi ≤ f2.i := done_of (hd ▸ M2.out)
        obtain ⟨q, hq, hm2, heq⟩ := RS.pop R2.out he hhi
        cases fs1 with
        | nil =>
          obtain rfl : ra = none := by have := C2.out; simpa [Conts] using this
          obtain ⟨j1, j2, j3, j4, j5, j6, j7, j8, j9⟩ := R2.out.inv.cells
          have HE := hide (And.intro hq heq)
          clear hq heq j1 j2 j3 j4 j5 j6 j7 j9 hd he hhi M2 C2 HY
          go_wp2_with fail
          refine (emit_any g wp wr _ _ es bs sb cap st2 R2.out.inv R2.out.ok.1 R2.out.stt (Nat.le_trans (Nat.le_add_right _ _) R2.out.len)).mono ?_
          rintro e w3 ⟨rfl, b3, hb3, hi3, hf3⟩
          have H3 := hide (And.intro hb3 (And.intro hi3 hf3))
          clear hb3 hi3 hf3 j8
          go_wp2_with fail
          first | go_end0 | refine bodyPost_ret (results_none rfl _ _ _) rfl ?_
          refine ⟨rfl, .slice (some ⟨sb, 0, none⟩) 4 cap, bl2, [b3], ?_, ?_, R2.out.frm.trans H3.out.2.2 HZ.out (.inl rfl)⟩
          · have h := H3.out.2.1
            rw [← HE.out.2, runP_nil (by omega)]
            exact h
          · intro b hb
            obtain rfl := List.mem_singleton.1 hb
            exact Nat.le_trans R2.out.frm.size H3.out.1
        | cons f3 fs3 =>
          obtain ⟨cb3, bv3, nv3, hra, hP3, hcb3, hb3, hc3⟩ := C2.out
          have c0 : wr.cell? ⟨cb3, 0, none⟩ = some bv3 := (cell_at (k := 0) hcb3 rfl).1
          have c1 : wr.cell? ⟨cb3, 1, none⟩ = some nv3 := (cell_at (k := 1) hcb3 rfl).1
          obtain rfl : ra = some ⟨cb3, 0, none⟩ := by simpa using hra
          have HE := hide (And.intro hq heq)
          have HB3 := hide hb3
          have HC3 := hide hc3
          clear hq heq hd he hhi M2 C2 HY hra hcb3 hb3 hc3
          go_wp2_with fail
          go_quiet (fail)
          go_wp2_with fail
          go_roundg q
          case measure => have := HE.out.1; omega
          case rel => exact ⟨by have := HE.out.1; omega, st2, f3, fs3, bl2, (R2.out.popped HE.out.1 hm2 HE.out.2).drewN _, HB3, hide (HC3.out.drewN _)⟩

/-- THE RUNNER EMITS WHAT THE PLAIN FUNCTION SAYS. -/
theorem run_all (g : Gh) (wp : World) (ops : Nat → O5) : ∀ n, RunOK g wp ops n := fun n => Nat.strongRecOn n fun n ih => run_step g wp ops n ih
end Go.Proofs.Ybulkbvqe
