/-
  WALK for seat b3605a: LawS3605BOpen.
-/
import Derived.Test.YbulkbvqeFill
import Derived.Deep.OwnRows
namespace Go.Proofs.Ybulkbvqe
open Go.ChangeShapes Go.WideShapes Go.ChangeAt Go.RowKit
set_option linter.unusedVariables false

theorem Yba.info4 : (Yba.prog.info? 4).map (fun i => (i.zero, i.size, i.bytes)) = some (some (.bool false), 1, 1) := by kernel_rfl
theorem make_seen (n : Nat) (hn : n ≤ 81) (w : World) : (Instr.makeSlice 31 (.int .i64 (n : Int)) (.int .i64 (n : Int))).run Yba.prog w = .ok (.slice (some ⟨w.heap.size, 0, none⟩) n n) (w.alloc (.cells (madeCells #[.bool false] n) 4)) :=
  run_make_row' 31 4 (.bool false) 1 Yba.underlying31 Yba.info4 rfl .i64 .i64 n (by omega) (by omega) w

/-- The log's rows. -/
def LogIn (w : World) (lo : Nat) (al : Option Addr) (es : List (List Int)) : Prop :=
  es = [] ∨ ∃ g, al = some ⟨g, 0, none⟩ ∧ lo ≤ g ∧ g < w.heap.size ∧ ∀ j, j < es.length → ∃ b c, w.cell? ⟨g, j, none⟩ = some (.slice (some ⟨b, 0, none⟩) 4 c) ∧ lo ≤ b ∧ b < w.heap.size ∧ St w b (es.getD j [])
theorem LogIn.below {w w' : World} {lo : Nat} {al : Option Addr} {es : List (List Int)} (h2 : LogIn w lo al es) (hb : Below w.heap.size w w') : LogIn w' lo al es := by
  rcases h2 with h2 | ⟨g, h3, h4, h5, h6⟩
  · exact .inl h2
  · refine .inr ⟨g, h3, h4, Nat.lt_of_lt_of_le h5 hb.size, fun j hj => ?_⟩
    obtain ⟨b, c, k1, k2, k3, t, kt⟩ := h6 j hj
    exact ⟨b, c, (hb.cell h5).trans k1, k2, Nat.lt_of_lt_of_le k3 hb.size, t, (hb.block b k3).trans kt⟩
theorem LogIn.at {w : World} {lo : Nat} {al : Option Addr} {es : List (List Int)} (h : LogIn w lo al es) {j : Nat} (hj : j < es.length) : ∃ g b c, al = some ⟨g, 0, none⟩ ∧ w.cell? ⟨g, j, none⟩ = some (.slice (some ⟨b, 0, none⟩) 4 c) ∧ b < w.heap.size ∧ St w b (es.getD j []) := by
  rcases h with h | ⟨g, h3, h4, h5, h6⟩
  · rw [h] at hj; simp at hj
  · obtain ⟨b, c, k1, k2, k3, k4⟩ := h6 j hj
    exact ⟨g, b, c, h3, k1, k3, k4⟩
theorem st_below {w w' : World} {b : Nat} {s : List Int} (h : St w b s) (hb : Below w.heap.size w w') : St w' b s := by
  obtain ⟨t, ht⟩ := h
  exact ⟨t, (hb.block b (lt_of_block ht)).trans ht⟩

/-- WHERE THE LAW STANDS behind the log: all that lay there lies there; the marks. -/
structure Wd (w2 wr : World) (n : Nat) (f : Nat → Bool) : Prop where
  bel : Below w2.heap.size w2 wr
  row : wr.rowIs w2.heap.size 4 n (fun j => .bool (f j))
theorem Wd.start (w2 : World) (n : Nat) : Wd w2 (w2.alloc (.cells (madeCells #[.bool false] n) 4)) n (fun _ => false) := ⟨(Below.refl _ _).alloc (Nat.le_refl _) _, World.rowIs_made w2 _ n 4⟩
theorem Wd.turn {w2 wr w' : World} {n xb : Nat} {f : Nat → Bool} (h : Wd w2 wr n f) (hg : wr.grownBy w' (some xb)) (hx : wr.heap.size ≤ xb) : Wd w2 w' n f := by
  have hz := h.row.lt
  have hs := h.bel.size
  exact ⟨h.bel.grown hg hs (fun k hk => by cases hk; omega), h.row.of_block (hg.block _ hz (fun e => by cases e; omega))⟩
theorem Wd.drewN {w2 wr : World} {n : Nat} {f : Nat → Bool} (h : Wd w2 wr n f) (q : Nat) : Wd w2 (wr.drewN q) n f := ⟨below_drewN h.bel q, h.row⟩
theorem Wd.mark {w2 wr : World} {n : Nat} {f g : Nat → Bool} (h : Wd w2 wr n f) (j : Nat) (hg : ∀ i, i < n → g i = (if i = j then true else f i)) : Wd w2 (wr.setCell ⟨w2.heap.size, j, none⟩ (.bool true)) n g := by
  refine ⟨h.bel.setCell (Nat.le_refl _) _, (h.row.set j (.bool true)).congr fun i hi => ?_⟩
  rw [hg i hi]
  split <;> rfl
theorem Wd.said {w2 wr : World} {n : Nat} {f g : Nat → Bool} (h : Wd w2 wr n f) (hg : ∀ i, i < n → g i = f i) : Wd w2 wr n g := ⟨h.bel, h.row.congr fun i hi => by rw [hg i hi]⟩

/-- What is seen behind j of the log in round m. -/
def seenAt (ops : Nat → O5) (n : Nat) (s : List Int) (es : List (List Int)) (m j : Nat) (y : List Int) (i : Nat) : Bool := seenTo ops n s (es.getD i []) m || (decide (i < j) && mtTo (es.getD i []) y 4)

/-- Where the filling stands. -/
structure Fl (wr w' : World) (xb : Nat) (x : List Int) : Prop where
  gr : wr.grownBy w' (some xb)
  stt : St w' xb x
theorem grown_wide {w w' : World} {r : Option Nat} (h : w.grownBy w' none) : w.grownBy w' r := ⟨h.os, h.tape, h.output, h.size, fun k hk _ => h.block k hk (by simp)⟩
theorem grown_cell {w : World} {xb k : Nat} {v : Value} : w.grownBy (w.setCell ⟨xb, k, none⟩ v) (some xb) := ⟨rfl, rfl, rfl, by simp [World.setCell], fun i hi hne => Below.heap_setCell _ _ _ _ (fun e => hne (by rw [e]))⟩

set_option maxHeartbeats 1600000 in
set_option maxRecDepth 100000 in
theorem open_small (a0 : Option Addr) (n0 c0 : Nat) (z : Nat → Int) (ao : Option Addr) (n c : Nat) (ops : Nat → O5) (w : World) (hn0 : n0 ≤ 9223372036854775807) (hz : ∀ i, 0 ≤ z i ∧ z i ≤ 255) (hI : InAt w a0 n0 z) (hn : n ≤ 512) (hO : OpsAt w ao n ops) :
    Calls Yba.prog 4 #[.slice a0 n0 c0, .slice ao n c] w fun e w' => e = .returned (.bool true) ∧ Below w.heap.size w w' := by
  have hn' : (n : Int) ≤ 512 := by omega
  have HI := hide hI
  have HO := hide hO
  have HZ := hide hz
  clear hI hO hz
  have hmk := make4 w
  go_enter Yba.func4, Yba.ntmps4
  go_wp2_with fail
  go_simp
  go_wp2_with fail
  clear hmk
  go_loopw [6] (fun iv wr => ∃ k : Nat, k ≤ 4 ∧ iv = .int .i64 (k : Nat) ∧ Hid (Mk w wr Ok)) (fun iv _ => 4 - (intOf iv).toNat)
  case atStart => exact ⟨0, by omega, rfl, Mk.start w ⟨rfl, by decide⟩⟩
  case round =>
    obtain ⟨k, hk, rfl, M⟩ := hrel
    by_cases hlt : k < 4 ∧ k < n0
    · obtain ⟨h4, hlt⟩ := hlt
      have h4' : (k : Int) < 4 := by omega
      have hlt' : (k : Int) < (n0 : Int) := by omega
      obtain h0 | ⟨b, o, rfl, hb, hc⟩ := HI.out
      · omega
      have c1 : wr.cell? ⟨b, o + k, none⟩ = some (.int .u8 (z k)) := (M.out.bel.cell (by exact hb)).trans (hc k hlt)
      obtain ⟨x, c2, f2⟩ := M.out.cell h4 (fun s h => h.1)
      have hzk := HZ.out k
      clear hc
      by_cases h3 : z k % 4 = 3
      · go_wp2_with fail
        go_roundw
        case rel => exact ⟨k + 1, by omega, by go_num, M.out.store h4 (fun s h => h.1) (fun s h => h.set k _ (by omega))⟩
        case measure => simp [intOf]; omega
      · have h3' : (z k % 4 == 3) = false := by simpa using h3
        go_wp2_with fail
        go_roundw
        case rel => exact ⟨k + 1, by omega, by go_num, M.out.store h4 (fun s h => h.1) (fun s h => h.set k _ (by omega))⟩
        case measure => simp [intOf]; omega
    · obtain ⟨s, hs, hS⟩ := M.out.ex
      have HB := hide M.out.bel
      have HOk := hide hs
      have HS := hide hS
      have HN := hide hlt
      clear M hs hS hlt
      by_cases hk4 : k < 4
      · have hk4' : (k : Int) < 4 := by omega
        have hkn : ¬ (k : Int) < (n0 : Int) := by have := HN.out; omega
        go_wp2_with fail
        refine (clone4 w.heap.size 4 s wr HOk.out.1 HS.out).mono ?_
        rintro e w1 ⟨xs, cx, rfl, hxs, hX, hg1⟩
        have HG1 := hide hg1
        have HX := hide hX
        have hsw := HB.out.size
        have hlt0 : w.heap.size < wr.heap.size := by obtain ⟨t, ht⟩ := HS.out; exact lt_of_block ht
        clear hg1 hX
        go_wp2_with fail
        refine (brun_any w1 w.heap.size 4 s ao n c ops (HO.out.below (HB.out.grown HG1.out hsw (fun k h => by cases h))) (by omega) (st_grown HS.out HG1.out) HOk.out).mono ?_
        rintro e w2 ⟨lv, rfl, hlog, hg2⟩
        have HX2 : Hid (St w2 xs s) := st_other HX.out hg2 (by omega)
        have HB2 : Hid (Below w.heap.size w w2) := (HB.out.grown HG1.out hsw (fun k h => by cases h)).grown hg2 (by have := HG1.out.size; omega) (fun k h => by cases h; exact Nat.le_refl _)
        have HSh : Hid (∀ j, j < (emits ops n s).length → Ok ((emits ops n s).getD j []) ∧ ∀ k, k < 4 → ((emits ops n s).getD j []).getD k 0 = -1 → s.getD k 0 = -1) := fun j hj => shut_all HOk.out hj
        have HFd : Hid (∀ m y, ex ops 0 n (fill s m 4) = some y → fdTo (emits ops n s) y (emits ops n s).length = true) := fun m y hy => found_all HOk.out hy
        have HSn : Hid (∀ j, j < (emits ops n s).length → seenTo ops n s ((emits ops n s).getD j []) 81 = true) := fun j hj => seen_all HOk.out (by simp [List.getD, hj])
        have hel := emits_len (ops := ops) (n := n) HOk.out
        have HLen := hide HOk.out.1
        have HO2 : Hid (OpsAt w2 ao n ops) := HO.out.below HB2.out
        have HNE : Hid (∀ xb, w2.heap.size ≤ xb → ∀ b o, ao = some ⟨b, o, none⟩ → n ≠ 0 → b ≠ xb) := fun xb hx => ops_ne HO2.out hx
        generalize emits ops n s = es at *
        obtain ⟨al, cl, rfl, hL⟩ := hlog
        have HL : Hid (LogIn w2 w1.heap.size al es) := hL
        have HOk2 := hide HOk.out
        clear hL hg2 HS HB HX HG1 HO hsw hlt0 hxs HOk
        go_wp2_with fail
        go_loopw [56] (fun iv wr => ∃ j : Nat, j ≤ es.length ∧ iv = .int .i64 (j : Nat) ∧ wr = w2) (fun iv _ => es.length - (intOf iv).toNat)
        case atStart => exact ⟨0, Nat.zero_le _, rfl, rfl⟩
        case round =>
          obtain ⟨j, hj, rfl, hwr⟩ := hrel
          have hwr' := hwr.symm
          subst hwr'
          by_cases hjl : j < es.length
          · have hjl' : (j : Int) < (es.length : Int) := by omega
            obtain ⟨g, b, c', rfl, hc, hb, hSt⟩ := HL.out.at hjl
            obtain ⟨hOe, hop⟩ := HSh.out j hjl
            have HE := hide hSt
            have HOe := hide hOe
            have HOp := hide hop
            clear hSt hOe hop
            go_wp2_with fail
            go_loopw [12] (fun kv w4 => ∃ k : Nat, k ≤ 4 ∧ kv = .int .i64 (k : Nat) ∧ w4 = w2) (fun kv _ => 4 - (intOf kv).toNat)
            case atStart => exact ⟨0, by omega, rfl, rfl⟩
            case round =>
              obtain ⟨k2, hk2, rfl, hwr⟩ := hrel
              have hwr' := hwr.symm
              subst hwr'
              by_cases h4 : k2 < 4
              · have h4' : (k2 : Int) < 4 := by omega
                have g1 := (HE.out.cell k2 (by rw [HOe.out.1]; exact h4)).1
                have g2 := (HX2.out.cell k2 (by rw [HLen.out]; exact h4)).1
                obtain ⟨X, hX⟩ : ∃ X, X = (es.getD j []).getD k2 0 := ⟨_, rfl⟩
                obtain ⟨Y, hY⟩ : ∃ Y, Y = s.getD k2 0 := ⟨_, rfl⟩
                rw [← hX] at g1
                rw [← hY] at g2
                have HX' := hide hX
                have HY' := hide hY
                clear hX hY
                by_cases h1 : X = -1
                · have h2 : Y = -1 := by rw [HY'.out]; exact HOp.out k2 h4 (by rw [← HX'.out]; exact h1)
                  subst h1 h2
                  go_wp2_with fail
                  go_roundw
                  case rel => exact ⟨k2 + 1, by omega, by go_num, by trivial⟩
                  case measure => simp [intOf]; omega
                · have h1' : (X == -1) = false := by simpa using h1
                  go_wp2_with fail
                  go_roundw
                  case rel => exact ⟨k2 + 1, by omega, by go_num, by trivial⟩
                  case measure => simp [intOf]; omega
              · obtain rfl : k2 = 4 := by omega
                go_wp2_with fail
                go_roundw
                case rel => exact ⟨j + 1, hjl, by go_num, by trivial⟩
                case measure => simp [intOf]; omega
          · have hmk2 := make_seen es.length hel w2
            have hjl' : ¬ (j : Int) < (es.length : Int) := by omega
            go_wp2_with fail
            go_simp
            go_wp2_with fail
            clear hmk2
            go_loopw [14] (fun mv w4 => ∃ m : Nat, m ≤ 81 ∧ mv = .int .i64 (m : Nat) ∧ Hid (Wd w2 w4 es.length (fun j => seenTo ops n s (es.getD j []) m))) (fun mv _ => 81 - (intOf mv).toNat)
            case atStart => exact ⟨0, by omega, rfl, Wd.start w2 es.length⟩
            case round =>
              obtain ⟨m, hm, rfl, W⟩ := hrel
              obtain ⟨w4, hw4⟩ : ∃ w4, w4 = wr := ⟨_, rfl⟩
              subst hw4
              have hw24 := W.out.bel.size
              by_cases hm81 : m < 81
              · have hm81' : (m : Int) < 81 := by omega
                go_wp2_with fail
                refine (clone4 xs cx s w4 HLen.out (st_below HX2.out W.out.bel)).mono ?_
                rintro e w5 ⟨xb, cb, rfl, hxb, hSx, hg5⟩
                have F0 : Hid (Fl w4 w5 xb (fill s m 0)) := ⟨grown_wide hg5, hSx⟩
                clear hSx hg5
                go_wp2_with fail
                go_loopw [16, 17] (fun dv kv w6 => ∃ k d : Nat, k ≤ 4 ∧ kv = .int .i64 (k : Nat) ∧ dv = .int .i64 (d : Nat) ∧ d ≤ 81 ∧ Hid (d = m / 3 ^ k) ∧ Hid (Fl w4 w6 xb (fill s m k))) (fun _ kv _ => 4 - (intOf kv).toNat)
                case atStart => exact ⟨0, m, by omega, rfl, rfl, by omega, by simp [Hid], F0⟩
                case round =>
                  obtain ⟨k3, d, hk3, rfl, rfl, hd81, HD, F⟩ := hrel
                  clear F0
                  by_cases h4 : k3 < 4
                  · have h4' : (k3 : Int) < 4 := by omega
                    have hfl : k3 < (fill s m k3).length := by rw [fill_len, HLen.out]; exact h4
                    obtain ⟨g1, f1⟩ := F.out.stt.cell k3 hfl
                    rw [fill_get HLen.out m k3 hk3 k3 h4, if_neg (fun h => Nat.lt_irrefl _ h.1)] at g1
                    obtain ⟨X, hX⟩ : ∃ X, X = s.getD k3 0 := ⟨_, rfl⟩
                    rw [← hX] at g1
                    have HX' := hide hX
                    have HFL := hide hfl
                    have HD2 : Hid (d / 3 = m / 3 ^ (k3 + 1)) := by
                      show d / 3 = m / 3 ^ (k3 + 1)
                      rw [HD.out, Nat.div_div_eq_div_mul, Nat.pow_succ]
                    clear hX hfl
                    by_cases h1 : X = -1
                    · have HF2 : Hid (fill s m (k3 + 1) = (fill s m k3).set k3 ((d % 3 : Nat) : Int)) := by
                        show fill s m (k3 + 1) = _
                        rw [fill, if_pos (HX'.out.symm.trans h1), HD.out]
                      subst h1
                      go_wp2_with fail
                      go_roundw
                      case rel => exact ⟨k3 + 1, d / 3, by omega, by go_num, by go_num, by omega, HD2, by rw [HF2.out]; exact ⟨F.out.gr.trans grown_cell, F.out.stt.store k3 HFL.out _⟩⟩
                      case measure => simp [intOf]; omega
                    · have h1' : (X == -1) = false := by simpa using h1
                      have HF2 : Hid (fill s m (k3 + 1) = fill s m k3) := by
                        show fill s m (k3 + 1) = _
                        rw [fill, if_neg (fun h => h1 (HX'.out.trans h))]
                      go_wp2_with fail
                      go_roundw
                      case rel => exact ⟨k3 + 1, d / 3, by omega, by go_num, by go_num, by omega, HD2, by rw [HF2.out]; exact F⟩
                      case measure => simp [intOf]; omega
                  · obtain rfl : k3 = 4 := by omega
                    obtain ⟨w6, hw6⟩ : ∃ w6, w6 = wr := ⟨_, rfl⟩
                    subst hw6
                    go_wp2_with fail
                    refine (exec_all ops n w6 ao n c 0 n xb cb (fill s m 4) (HO2.out.below (W.out.turn F.out.gr hxb).bel) (HNE.out xb (by omega)) (by omega) (Nat.zero_le _) (Nat.le_refl _) (by omega) F.out.stt (by rw [fill_len, HLen.out])).mono ?_
                    rintro e w7 ⟨hg7, ⟨y, hy, rfl, hly, hSy⟩ | ⟨hy, rfl⟩⟩
                    · have W7 : Hid (Wd w2 w7 es.length (seenAt ops n s es m 0 y)) := (W.out.turn (F.out.gr.trans hg7) hxb).said fun i _ => by unfold seenAt; simp
                      have HSy := hide hSy
                      have HY := hide hy
                      have hx7 : w2.heap.size ≠ xb := by have := W.out.row.lt; omega
                      clear hg7 hy hSy
                      go_wp2_with fail
                      go_loopw [18, 112] (fun fv jv w8 => ∃ j : Nat, j ≤ es.length ∧ jv = .int .i64 (j : Nat) ∧ fv = .bool (fdTo es y j) ∧ Hid (Wd w2 w8 es.length (seenAt ops n s es m j y)) ∧ Hid (St w8 xb y)) (fun _ jv _ => es.length - (intOf jv).toNat)
                      case atStart => exact ⟨0, Nat.zero_le _, rfl, rfl, W7, HSy⟩
                      case round =>
                        obtain ⟨j6, hj6, rfl, rfl, W8, HS8⟩ := hrel
                        clear W7 HSy
                        obtain ⟨w8, hw8⟩ : ∃ w8, w8 = wr := ⟨_, rfl⟩
                        subst hw8
                        by_cases h6 : j6 < es.length
                        · have h6' : (j6 : Int) < (es.length : Int) := by omega
                          obtain ⟨g, b, c', rfl, hc, hb, hSt⟩ := (HL.out.below W8.out.bel).at h6
                          obtain ⟨hOe, _⟩ := HSh.out j6 h6
                          have HE := hide hSt
                          have HOe := hide hOe
                          clear hSt hOe
                          go_wp2_with fail
                          refine (match4 b xb c' cb (es.getD j6 []) y w8 HOe.out.1 hly HE.out HS8.out).mono ?_
                          rintro e w9 ⟨rfl, q, rfl⟩
                          by_cases hmt : mtTo (es.getD j6 []) y 4 = true
                          · have HM := hide hmt
                            have g1 := (W8.out.drewN q).row.cell h6
                            have f1 := (W8.out.drewN q).row.frozen j6
                            have HFd1 : Hid (fdTo es y (j6 + 1) = true) := by show fdTo es y (j6 + 1) = true; rw [fdTo, hmt, Bool.or_true]
                            rw [hmt]
                            clear hmt
                            go_wp2_with fail
                            go_roundw
                            case rel =>
                              refine ⟨j6 + 1, h6, by go_num, by rw [HFd1.out], (W8.out.drewN q).mark j6 fun i hi => ?_, HS8.out.other (Below.heap_setCell _ _ _ _ (Ne.symm hx7))⟩
                              unfold seenAt
                              by_cases hij : i = j6
                              · subst hij; rw [if_pos rfl, HM.out]; simp
                              · rw [if_neg hij]
                                have e : decide (i < j6 + 1) = decide (i < j6) := by simp; omega
                                rw [e]
                            case measure => simp [intOf]; omega
                          · have hmf : mtTo (es.getD j6 []) y 4 = false := by simpa using hmt
                            have HM := hide hmf
                            have HFd1 : Hid (fdTo es y (j6 + 1) = fdTo es y j6) := by show fdTo es y (j6 + 1) = _; rw [fdTo, hmf, Bool.or_false]
                            rw [hmf]
                            clear hmt hmf
                            go_wp2_with fail
                            go_roundw
                            case rel =>
                              refine ⟨j6 + 1, h6, by go_num, by rw [HFd1.out], (W8.out.drewN q).said fun i hi => ?_, HS8.out⟩
                              unfold seenAt
                              by_cases hij : i = j6
                              · subst hij; rw [HM.out]; simp
                              · have e : decide (i < j6 + 1) = decide (i < j6) := by simp; omega
                                rw [e]
                            case measure => simp [intOf]; omega
                        · obtain rfl : j6 = es.length := by omega
                          have h6' : ¬ (es.length : Int) < (es.length : Int) := by omega
                          rw [HFd.out m y HY.out]
                          have W9 : Hid (Wd w2 w8 es.length (fun j => seenTo ops n s (es.getD j []) (m + 1))) := W8.out.said fun i hi => by
                            unfold seenAt
                            rw [seenTo, hit, HY.out]
                            simp [hi]
                          clear W8
                          go_wp2_with fail
                          go_roundw
                          case rel => exact ⟨m + 1, hm81, by go_num, W9⟩
                          case measure => simp [intOf]; omega
                    · have W7 : Hid (Wd w2 w7 es.length (fun j => seenTo ops n s (es.getD j []) (m + 1))) := (W.out.turn (F.out.gr.trans hg7) hxb).said fun i _ => by rw [seenTo, hit, hy, Bool.or_false]
                      clear hg7 hy
                      go_wp2_with fail
                      go_roundw
                      case rel => exact ⟨m + 1, hm81, by go_num, W7⟩
                      case measure => simp [intOf]; omega
              · obtain rfl : m = 81 := by omega
                go_wp2_with fail
                go_loopw [128] (fun jv w8 => ∃ j : Nat, j ≤ es.length ∧ jv = .int .i64 (j : Nat) ∧ w8 = w4) (fun jv _ => es.length - (intOf jv).toNat)
                case atStart => exact ⟨0, Nat.zero_le _, rfl, rfl⟩
                case round =>
                  obtain ⟨j4, hj4, rfl, hwr⟩ := hrel
                  have hwr' := hwr.symm
                  subst hwr'
                  by_cases h4 : j4 < es.length
                  · have h4' : (j4 : Int) < (es.length : Int) := by omega
                    have g1 := W.out.row.cell h4
                    simp only [HSn.out j4 h4] at g1
                    go_wp2_with fail
                    go_roundw
                    case rel => exact ⟨j4 + 1, h4, by go_num, by trivial⟩
                    case measure => simp [intOf]; omega
                  · have h4' : ¬ (j4 : Int) < (es.length : Int) := by omega
                    go_wp2_with fail
                    go_ret
                    exact ⟨rfl, HB2.out.trans (W.out.bel.mono HB2.out.size)⟩
      · have hk4' : ¬ (k : Int) < 4 := by omega
        go_wp2_with fail
        refine (clone4 w.heap.size 4 s wr HOk.out.1 HS.out).mono ?_
        rintro e w1 ⟨xs, cx, rfl, hxs, hX, hg1⟩
        have HG1 := hide hg1
        have HX := hide hX
        have hsw := HB.out.size
        have hlt0 : w.heap.size < wr.heap.size := by obtain ⟨t, ht⟩ := HS.out; exact lt_of_block ht
        clear hg1 hX
        go_wp2_with fail
        refine (brun_any w1 w.heap.size 4 s ao n c ops (HO.out.below (HB.out.grown HG1.out hsw (fun k h => by cases h))) (by omega) (st_grown HS.out HG1.out) HOk.out).mono ?_
        rintro e w2 ⟨lv, rfl, hlog, hg2⟩
        have HX2 : Hid (St w2 xs s) := st_other HX.out hg2 (by omega)
        have HB2 : Hid (Below w.heap.size w w2) := (HB.out.grown HG1.out hsw (fun k h => by cases h)).grown hg2 (by have := HG1.out.size; omega) (fun k h => by cases h; exact Nat.le_refl _)
        have HSh : Hid (∀ j, j < (emits ops n s).length → Ok ((emits ops n s).getD j []) ∧ ∀ k, k < 4 → ((emits ops n s).getD j []).getD k 0 = -1 → s.getD k 0 = -1) := fun j hj => shut_all HOk.out hj
        have HFd : Hid (∀ m y, ex ops 0 n (fill s m 4) = some y → fdTo (emits ops n s) y (emits ops n s).length = true) := fun m y hy => found_all HOk.out hy
        have HSn : Hid (∀ j, j < (emits ops n s).length → seenTo ops n s ((emits ops n s).getD j []) 81 = true) := fun j hj => seen_all HOk.out (by simp [List.getD, hj])
        have hel := emits_len (ops := ops) (n := n) HOk.out
        have HLen := hide HOk.out.1
        have HO2 : Hid (OpsAt w2 ao n ops) := HO.out.below HB2.out
        have HNE : Hid (∀ xb, w2.heap.size ≤ xb → ∀ b o, ao = some ⟨b, o, none⟩ → n ≠ 0 → b ≠ xb) := fun xb hx => ops_ne HO2.out hx
        generalize emits ops n s = es at *
        obtain ⟨al, cl, rfl, hL⟩ := hlog
        have HL : Hid (LogIn w2 w1.heap.size al es) := hL
        have HOk2 := hide HOk.out
        clear hL hg2 HS HB HX HG1 HO hsw hlt0 hxs HOk
        go_wp2_with fail
        go_loopw [56] (fun iv wr => ∃ j : Nat, j ≤ es.length ∧ iv = .int .i64 (j : Nat) ∧ wr = w2) (fun iv _ => es.length - (intOf iv).toNat)
        case atStart => exact ⟨0, Nat.zero_le _, rfl, rfl⟩
        case round =>
          obtain ⟨j, hj, rfl, hwr⟩ := hrel
          have hwr' := hwr.symm
          subst hwr'
          by_cases hjl : j < es.length
          · have hjl' : (j : Int) < (es.length : Int) := by omega
            obtain ⟨g, b, c', rfl, hc, hb, hSt⟩ := HL.out.at hjl
            obtain ⟨hOe, hop⟩ := HSh.out j hjl
            have HE := hide hSt
            have HOe := hide hOe
            have HOp := hide hop
            clear hSt hOe hop
            go_wp2_with fail
            go_loopw [12] (fun kv w4 => ∃ k : Nat, k ≤ 4 ∧ kv = .int .i64 (k : Nat) ∧ w4 = w2) (fun kv _ => 4 - (intOf kv).toNat)
            case atStart => exact ⟨0, by omega, rfl, rfl⟩
            case round =>
              obtain ⟨k2, hk2, rfl, hwr⟩ := hrel
              have hwr' := hwr.symm
              subst hwr'
              by_cases h4 : k2 < 4
              · have h4' : (k2 : Int) < 4 := by omega
                have g1 := (HE.out.cell k2 (by rw [HOe.out.1]; exact h4)).1
                have g2 := (HX2.out.cell k2 (by rw [HLen.out]; exact h4)).1
                obtain ⟨X, hX⟩ : ∃ X, X = (es.getD j []).getD k2 0 := ⟨_, rfl⟩
                obtain ⟨Y, hY⟩ : ∃ Y, Y = s.getD k2 0 := ⟨_, rfl⟩
                rw [← hX] at g1
                rw [← hY] at g2
                have HX' := hide hX
                have HY' := hide hY
                clear hX hY
                by_cases h1 : X = -1
                · have h2 : Y = -1 := by rw [HY'.out]; exact HOp.out k2 h4 (by rw [← HX'.out]; exact h1)
                  subst h1 h2
                  go_wp2_with fail
                  go_roundw
                  case rel => exact ⟨k2 + 1, by omega, by go_num, by trivial⟩
                  case measure => simp [intOf]; omega
                · have h1' : (X == -1) = false := by simpa using h1
                  go_wp2_with fail
                  go_roundw
                  case rel => exact ⟨k2 + 1, by omega, by go_num, by trivial⟩
                  case measure => simp [intOf]; omega
              · obtain rfl : k2 = 4 := by omega
                go_wp2_with fail
                go_roundw
                case rel => exact ⟨j + 1, hjl, by go_num, by trivial⟩
                case measure => simp [intOf]; omega
          · have hmk2 := make_seen es.length hel w2
            have hjl' : ¬ (j : Int) < (es.length : Int) := by omega
            go_wp2_with fail
            go_simp
            go_wp2_with fail
            clear hmk2
            go_loopw [14] (fun mv w4 => ∃ m : Nat, m ≤ 81 ∧ mv = .int .i64 (m : Nat) ∧ Hid (Wd w2 w4 es.length (fun j => seenTo ops n s (es.getD j []) m))) (fun mv _ => 81 - (intOf mv).toNat)
            case atStart => exact ⟨0, by omega, rfl, Wd.start w2 es.length⟩
            case round =>
              obtain ⟨m, hm, rfl, W⟩ := hrel
              obtain ⟨w4, hw4⟩ : ∃ w4, w4 = wr := ⟨_, rfl⟩
              subst hw4
              have hw24 := W.out.bel.size
              by_cases hm81 : m < 81
              · have hm81' : (m : Int) < 81 := by omega
                go_wp2_with fail
                refine (clone4 xs cx s w4 HLen.out (st_below HX2.out W.out.bel)).mono ?_
                rintro e w5 ⟨xb, cb, rfl, hxb, hSx, hg5⟩
                have F0 : Hid (Fl w4 w5 xb (fill s m 0)) := ⟨grown_wide hg5, hSx⟩
                clear hSx hg5
                go_wp2_with fail
                go_loopw [16, 17] (fun dv kv w6 => ∃ k d : Nat, k ≤ 4 ∧ kv = .int .i64 (k : Nat) ∧ dv = .int .i64 (d : Nat) ∧ d ≤ 81 ∧ Hid (d = m / 3 ^ k) ∧ Hid (Fl w4 w6 xb (fill s m k))) (fun _ kv _ => 4 - (intOf kv).toNat)
                case atStart => exact ⟨0, m, by omega, rfl, rfl, by omega, by simp [Hid], F0⟩
                case round =>
                  obtain ⟨k3, d, hk3, rfl, rfl, hd81, HD, F⟩ := hrel
                  clear F0
                  by_cases h4 : k3 < 4
                  · have h4' : (k3 : Int) < 4 := by omega
                    have hfl : k3 < (fill s m k3).length := by rw [fill_len, HLen.out]; exact h4
                    obtain ⟨g1, f1⟩ := F.out.stt.cell k3 hfl
                    rw [fill_get HLen.out m k3 hk3 k3 h4, if_neg (fun h => Nat.lt_irrefl _ h.1)] at g1
                    obtain ⟨X, hX⟩ : ∃ X, X = s.getD k3 0 := ⟨_, rfl⟩
                    rw [← hX] at g1
                    have HX' := hide hX
                    have HFL := hide hfl
                    have HD2 : Hid (d / 3 = m / 3 ^ (k3 + 1)) := by
                      show d / 3 = m / 3 ^ (k3 + 1)
                      rw [HD.out, Nat.div_div_eq_div_mul, Nat.pow_succ]
                    clear hX hfl
                    by_cases h1 : X = -1
                    · have HF2 : Hid (fill s m (k3 + 1) = (fill s m k3).set k3 ((d % 3 : Nat) : Int)) := by
                        show fill s m (k3 + 1) = _
                        rw [fill, if_pos (HX'.out.symm.trans h1), HD.out]
                      subst h1
                      go_wp2_with fail
                      go_roundw
                      case rel => exact ⟨k3 + 1, d / 3, by omega, by go_num, by go_num, by omega, HD2, by rw [HF2.out]; exact ⟨F.out.gr.trans grown_cell, F.out.stt.store k3 HFL.out _⟩⟩
                      case measure => simp [intOf]; omega
                    · have h1' : (X == -1) = false := by simpa using h1
                      have HF2 : Hid (fill s m (k3 + 1) = fill s m k3) := by
                        show fill s m (k3 + 1) = _
                        rw [fill, if_neg (fun h => h1 (HX'.out.trans h))]
                      go_wp2_with fail
                      go_roundw
                      case rel => exact ⟨k3 + 1, d / 3, by omega, by go_num, by go_num, by omega, HD2, by rw [HF2.out]; exact F⟩
                      case measure => simp [intOf]; omega
                  · obtain rfl : k3 = 4 := by omega
                    obtain ⟨w6, hw6⟩ : ∃ w6, w6 = wr := ⟨_, rfl⟩
                    subst hw6
                    go_wp2_with fail
                    refine (exec_all ops n w6 ao n c 0 n xb cb (fill s m 4) (HO2.out.below (W.out.turn F.out.gr hxb).bel) (HNE.out xb (by omega)) (by omega) (Nat.zero_le _) (Nat.le_refl _) (by omega) F.out.stt (by rw [fill_len, HLen.out])).mono ?_
                    rintro e w7 ⟨hg7, ⟨y, hy, rfl, hly, hSy⟩ | ⟨hy, rfl⟩⟩
                    · have W7 : Hid (Wd w2 w7 es.length (seenAt ops n s es m 0 y)) := (W.out.turn (F.out.gr.trans hg7) hxb).said fun i _ => by unfold seenAt; simp
                      have HSy := hide hSy
                      have HY := hide hy
                      have hx7 : w2.heap.size ≠ xb := by have := W.out.row.lt; omega
                      clear hg7 hy hSy
                      go_wp2_with fail
                      go_loopw [18, 112] (fun fv jv w8 => ∃ j : Nat, j ≤ es.length ∧ jv = .int .i64 (j : Nat) ∧ fv = .bool (fdTo es y j) ∧ Hid (Wd w2 w8 es.length (seenAt ops n s es m j y)) ∧ Hid (St w8 xb y)) (fun _ jv _ => es.length - (intOf jv).toNat)
                      case atStart => exact ⟨0, Nat.zero_le _, rfl, rfl, W7, HSy⟩
                      case round =>
                        obtain ⟨j6, hj6, rfl, rfl, W8, HS8⟩ := hrel
                        clear W7 HSy
                        obtain ⟨w8, hw8⟩ : ∃ w8, w8 = wr := ⟨_, rfl⟩
                        subst hw8
                        by_cases h6 : j6 < es.length
                        · have h6' : (j6 : Int) < (es.length : Int) := by omega
                          obtain ⟨g, b, c', rfl, hc, hb, hSt⟩ := (HL.out.below W8.out.bel).at h6
                          obtain ⟨hOe, _⟩ := HSh.out j6 h6
                          have HE := hide hSt
                          have HOe := hide hOe
                          clear hSt hOe
                          go_wp2_with fail
                          refine (match4 b xb c' cb (es.getD j6 []) y w8 HOe.out.1 hly HE.out HS8.out).mono ?_
                          rintro e w9 ⟨rfl, q, rfl⟩
                          by_cases hmt : mtTo (es.getD j6 []) y 4 = true
                          · have HM := hide hmt
                            have g1 := (W8.out.drewN q).row.cell h6
                            have f1 := (W8.out.drewN q).row.frozen j6
                            have HFd1 : Hid (fdTo es y (j6 + 1) = true) := by show fdTo es y (j6 + 1) = true; rw [fdTo, hmt, Bool.or_true]
                            rw [hmt]
                            clear hmt
                            go_wp2_with fail
                            go_roundw
                            case rel =>
                              refine ⟨j6 + 1, h6, by go_num, by rw [HFd1.out], (W8.out.drewN q).mark j6 fun i hi => ?_, HS8.out.other (Below.heap_setCell _ _ _ _ (Ne.symm hx7))⟩
                              unfold seenAt
                              by_cases hij : i = j6
                              · subst hij; rw [if_pos rfl, HM.out]; simp
                              · rw [if_neg hij]
                                have e : decide (i < j6 + 1) = decide (i < j6) := by simp; omega
                                rw [e]
                            case measure => simp [intOf]; omega
                          · have hmf : mtTo (es.getD j6 []) y 4 = false := by simpa using hmt
                            have HM := hide hmf
                            have HFd1 : Hid (fdTo es y (j6 + 1) = fdTo es y j6) := by show fdTo es y (j6 + 1) = _; rw [fdTo, hmf, Bool.or_false]
                            rw [hmf]
                            clear hmt hmf
                            go_wp2_with fail
                            go_roundw
                            case rel =>
                              refine ⟨j6 + 1, h6, by go_num, by rw [HFd1.out], (W8.out.drewN q).said fun i hi => ?_, HS8.out⟩
                              unfold seenAt
                              by_cases hij : i = j6
                              · subst hij; rw [HM.out]; simp
                              · have e : decide (i < j6 + 1) = decide (i < j6) := by simp; omega
                                rw [e]
                            case measure => simp [intOf]; omega
                        · obtain rfl : j6 = es.length := by omega
                          have h6' : ¬ (es.length : Int) < (es.length : Int) := by omega
                          rw [HFd.out m y HY.out]
                          have W9 : Hid (Wd w2 w8 es.length (fun j => seenTo ops n s (es.getD j []) (m + 1))) := W8.out.said fun i hi => by
                            unfold seenAt
                            rw [seenTo, hit, HY.out]
                            simp [hi]
                          clear W8
                          go_wp2_with fail
                          go_roundw
                          case rel => exact ⟨m + 1, hm81, by go_num, W9⟩
                          case measure => simp [intOf]; omega
                    · have W7 : Hid (Wd w2 w7 es.length (fun j => seenTo ops n s (es.getD j []) (m + 1))) := (W.out.turn (F.out.gr.trans hg7) hxb).said fun i _ => by rw [seenTo, hit, hy, Bool.or_false]
                      clear hg7 hy
                      go_wp2_with fail
                      go_roundw
                      case rel => exact ⟨m + 1, hm81, by go_num, W7⟩
                      case measure => simp [intOf]; omega
              · obtain rfl : m = 81 := by omega
                go_wp2_with fail
                go_loopw [128] (fun jv w8 => ∃ j : Nat, j ≤ es.length ∧ jv = .int .i64 (j : Nat) ∧ w8 = w4) (fun jv _ => es.length - (intOf jv).toNat)
                case atStart => exact ⟨0, Nat.zero_le _, rfl, rfl⟩
                case round =>
                  obtain ⟨j4, hj4, rfl, hwr⟩ := hrel
                  have hwr' := hwr.symm
                  subst hwr'
                  by_cases h4 : j4 < es.length
                  · have h4' : (j4 : Int) < (es.length : Int) := by omega
                    have g1 := W.out.row.cell h4
                    simp only [HSn.out j4 h4] at g1
                    go_wp2_with fail
                    go_roundw
                    case rel => exact ⟨j4 + 1, h4, by go_num, by trivial⟩
                    case measure => simp [intOf]; omega
                  · have h4' : ¬ (j4 : Int) < (es.length : Int) := by omega
                    go_wp2_with fail
                    go_ret
                    exact ⟨rfl, HB2.out.trans (W.out.bel.mono HB2.out.size)⟩
end Go.Proofs.Ybulkbvqe
