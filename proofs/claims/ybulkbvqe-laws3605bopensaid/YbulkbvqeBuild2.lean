/-
  WALKS for seat b3605a: the builder.
-/
import Derived.Test.YbulkbvqeBuild
namespace Go.Proofs.Ybulkbvqe
open Go.ChangeShapes Go.WideShapes Go.ChangeAt Go.RowKit
set_option linter.unusedVariables false

set_option maxHeartbeats 1000000 in
set_option maxRecDepth 100000 in
theorem build_step (ops : Nat → O5) (D : Nat) (IH : BuildOK ops D) : BuildOK ops (D + 1) := by
  intro w ao n c lo hi hO hn hlo hhi hD
  obtain ⟨z0, hinf, hz0, hz1, hz2⟩ := info_parts Yba.info46
  have HO := hide hO
  have HIH := hide IH
  clear hO IH
  go_enter Yba.func12, Yba.ntmps12
  go_wp2_with fail
  go_loopw [7, 8] (fun out iv wr => ∃ i ys, lo ≤ i ∧ i ≤ hi ∧ iv = .int .i64 (i : Nat) ∧ Hid (Bld w wr ops (D + 1) lo hi i out ys)) (fun _ iv _ => hi - (intOf iv).toNat)
  case atStart => exact ⟨lo, [], Nat.le_refl _, hlo, rfl, Bld.start w ops (D + 1) lo hi⟩
  case round =>
    obtain ⟨i, ys, hil, hih, rfl, B1⟩ := hrel
    by_cases hlt : i < hi
    · have hlt' : (i : Int) < (hi : Int) := by omega
      obtain h0 | ⟨b, o, rfl, hb, hc⟩ := HO.out
      · omega
      obtain ⟨k0, k1, k2, k3, k4⟩ := hc i (by omega)
      have c0 := (B1.out.bel.cell (p := ⟨b, o + i * 5, none⟩) hb).trans k0
      have c1 := (B1.out.bel.cell (p := ⟨b, o + i * 5 + 1, none⟩) hb).trans k1
      have c2 := (B1.out.bel.cell (p := ⟨b, o + i * 5 + 2, none⟩) hb).trans k2
      have c3 := (B1.out.bel.cell (p := ⟨b, o + i * 5 + 3, none⟩) hb).trans k3
      have c4 := (B1.out.bel.cell (p := ⟨b, o + i * 5 + 4, none⟩) hb).trans k4
      have hin : (i : Int) < (n : Int) := by omega
      clear hc k0 k1 k2 k3 k4
      have eV : ((ops i).v : Int) % 3 = vl (ops i) := rfl
      have eA : ((ops i).c : Int) % 4 = (cA (ops i) : Nat) := rfl
      have eB : ((ops i).d : Int) % 4 = (cB (ops i) : Nat) := rfl
      have hA4 := cA_lt (ops i)
      have hB4 := cB_lt (ops i)
      have hvl := vl_bd (ops i)
      have hyl := B1.out.len
      have hsz := B1.out.bel.size
      by_cases hk4 : kd (ops i) = 4
      · have hk : ((ops i).k : Int) % 6 = 4 := by unfold kd at hk4; omega
        have HO1 : Hid (OpsAt wr (some ⟨b, o, none⟩) n ops) := HO.out.below B1.out.bel
        by_cases hbig : hi - i - 1 < (ops i).l % 4
        · have hb1 : (hi : Int) - (i : Int) - 1 < ((ops i).l : Int) % 4 := by omega
          have hL : ln (ops i) i hi = hi - i - 1 := by unfold ln; rw [if_pos hbig]
          have hE : (i : Int) + 1 + ((hi : Int) - (i : Int) - 1) = ((i + 1 + ln (ops i) i hi : Nat) : Int) := by rw [hL]; omega
          have HL := hide hL
          clear hL
          go_wp2_with fail
          refine (HIH.out _ (some ⟨b, o, none⟩) n c (i + 1) (i + 1 + ln (ops i) i hi) (HO1.out.alloc _) hn (by omega) (by have := ln_le (ops i) i hi; omega) (by have := ln_le (ops i) i hi; omega)).mono ?_
          rintro e w2 ⟨tv, ys2, rfl, hS2, hG2, hB2⟩
          obtain ⟨at2, ct2, htv⟩ : ∃ at2 ct2, tv = .slice at2 ys2.length ct2 := by obtain ⟨x1, x2, x3, _⟩ := hS2; exact ⟨x1, x2, x3⟩
          subst htv
          have h12 : (wr.alloc (Obj.cells #[.int .u8 (ops i).k, .int .u8 (ops i).c, .int .u8 (ops i).d, .int .u8 (ops i).v, .int .u8 (ops i).l] 33)).heap.size ≤ w2.heap.size := hB2.size
          have hw2 : wr.heap.size + 1 ≤ w2.heap.size := by simpa using h12
          have hg12 : wr.grownBy w2 none := (World.grownBy_alloc wr _ none).trans (grown_of_below hB2)
          have OWN2 := hide (owns_same B1.out.own (fun k cs _ hh => (hg12.block k (lt_of_block hh) (by simp)).trans hh))
          have HS2 := hide hS2
          have HG2 := hide hG2
          have HG12 := hide hg12
          have c9 : w2.heap[wr.heap.size]? = some (Obj.cells #[.int .u8 (ops i).k, .int .u8 (ops i).c, .int .u8 (ops i).d, .int .u8 (ops i).v, .int .u8 (ops i).l] 33) := (hB2.block _ (by simp)).trans (heap_alloc_new _ _)
          clear hS2 hG2 hB2 c9
          go_wp2_with fail
          refine (const_mk _ _).mono ?_
          rintro e W ⟨rfl, rfl⟩
          go_wp2_with fail
          refine (eq_mk _ _ _ _).mono ?_
          rintro e W ⟨rfl, rfl⟩
          go_wp2_with (at_builtin; refine wpList_append_lies _ rfl _ _ 43 rfl w.heap.size 46 z0 .nilIface 1 16 Yba.underlying43 hinf hz0 hz1 hz2 rfl (by decide) u7 ys.length ys rfl ((((((((OWN2.out.alloc _).alloc _).alloc _).alloc _).alloc _).alloc _).alloc _).alloc _) ⟨w2.heap.size + 7, 0, none⟩ 1 1 [.iface 55 (.pointer (some ⟨w2.heap.size + 6, 0, none⟩))] rfl rfl (World.news_of_block (cs := #[.iface 55 (.pointer (some ⟨w2.heap.size + 6, 0, none⟩))]) (t := 46) (fr := (0, 0)) (by exact allocs_get [_, _, _, _, _, _, _, _] w2 7 (by simp))) (by simp [Value.oneCell']) (by decide) (by unfold maxLen; omega) (by omega) (by simp; omega) (w2.heap.size + 8) (by simp) ?_; intro g cap w' hown hgrow hat hlt2)
          have B2 := B1.out.addI (os := [_, _, _, _, _, _, _, _]) HG12.out hlt hown hgrow hat (fun w'' h => mk_if hk4 (by simp) rfl HS2.out HG2.out h12 h)
          have HN := hide (nx_if' (ops := ops) (hi := hi) (i := i) hk4)
          have hle := ln_le (ops i) i hi
          clear hown hgrow hat hlt2 B1 h12 hw2 hg12 HG12 HS2 HG2
          go_wp2_with fail
          go_roundw
          case rel => exact ⟨i + 1 + ln (ops i) i hi, _, by omega, by omega, by have := HL.out; go_num, by rw [← HN.out]; exact B2⟩
          case measure => have := HL.out; simp [intOf]; omega
        · have hb1 : ¬ (hi : Int) - (i : Int) - 1 < ((ops i).l : Int) % 4 := by omega
          have hL : ln (ops i) i hi = (ops i).l % 4 := by unfold ln; rw [if_neg hbig]
          have hE : (i : Int) + 1 + ((ops i).l : Int) % 4 = ((i + 1 + ln (ops i) i hi : Nat) : Int) := by rw [hL]; omega
          have HL := hide hL
          clear hL
          go_wp2_with fail
          refine (HIH.out _ (some ⟨b, o, none⟩) n c (i + 1) (i + 1 + ln (ops i) i hi) (HO1.out.alloc _) hn (by omega) (by have := ln_le (ops i) i hi; omega) (by have := ln_le (ops i) i hi; omega)).mono ?_
          rintro e w2 ⟨tv, ys2, rfl, hS2, hG2, hB2⟩
          obtain ⟨at2, ct2, htv⟩ : ∃ at2 ct2, tv = .slice at2 ys2.length ct2 := by obtain ⟨x1, x2, x3, _⟩ := hS2; exact ⟨x1, x2, x3⟩
          subst htv
          have h12 : (wr.alloc (Obj.cells #[.int .u8 (ops i).k, .int .u8 (ops i).c, .int .u8 (ops i).d, .int .u8 (ops i).v, .int .u8 (ops i).l] 33)).heap.size ≤ w2.heap.size := hB2.size
          have hw2 : wr.heap.size + 1 ≤ w2.heap.size := by simpa using h12
          have hg12 : wr.grownBy w2 none := (World.grownBy_alloc wr _ none).trans (grown_of_below hB2)
          have OWN2 := hide (owns_same B1.out.own (fun k cs _ hh => (hg12.block k (lt_of_block hh) (by simp)).trans hh))
          have HS2 := hide hS2
          have HG2 := hide hG2
          have HG12 := hide hg12
          have c9 : w2.heap[wr.heap.size]? = some (Obj.cells #[.int .u8 (ops i).k, .int .u8 (ops i).c, .int .u8 (ops i).d, .int .u8 (ops i).v, .int .u8 (ops i).l] 33) := (hB2.block _ (by simp)).trans (heap_alloc_new _ _)
          clear hS2 hG2 hB2 c9
          go_wp2_with fail
          refine (const_mk _ _).mono ?_
          rintro e W ⟨rfl, rfl⟩
          go_wp2_with fail
          refine (eq_mk _ _ _ _).mono ?_
          rintro e W ⟨rfl, rfl⟩
          go_wp2_with (at_builtin; refine wpList_append_lies _ rfl _ _ 43 rfl w.heap.size 46 z0 .nilIface 1 16 Yba.underlying43 hinf hz0 hz1 hz2 rfl (by decide) u7 ys.length ys rfl ((((((((OWN2.out.alloc _).alloc _).alloc _).alloc _).alloc _).alloc _).alloc _).alloc _) ⟨w2.heap.size + 7, 0, none⟩ 1 1 [.iface 55 (.pointer (some ⟨w2.heap.size + 6, 0, none⟩))] rfl rfl (World.news_of_block (cs := #[.iface 55 (.pointer (some ⟨w2.heap.size + 6, 0, none⟩))]) (t := 46) (fr := (0, 0)) (by exact allocs_get [_, _, _, _, _, _, _, _] w2 7 (by simp))) (by simp [Value.oneCell']) (by decide) (by unfold maxLen; omega) (by omega) (by simp; omega) (w2.heap.size + 8) (by simp) ?_; intro g cap w' hown hgrow hat hlt2)
          have B2 := B1.out.addI (os := [_, _, _, _, _, _, _, _]) HG12.out hlt hown hgrow hat (fun w'' h => mk_if hk4 (by simp) rfl HS2.out HG2.out h12 h)
          have HN := hide (nx_if' (ops := ops) (hi := hi) (i := i) hk4)
          have hle := ln_le (ops i) i hi
          clear hown hgrow hat hlt2 B1 h12 hw2 hg12 HG12 HS2 HG2
          go_wp2_with fail
          go_roundw
          case rel => exact ⟨i + 1 + ln (ops i) i hi, _, by omega, by omega, by have := HL.out; go_num, by rw [← HN.out]; exact B2⟩
          case measure => have := HL.out; simp [intOf]; omega
      · obtain hk0 | hk0 | hk0 | hk0 | hk0 : kd (ops i) = 0 ∨ kd (ops i) = 1 ∨ kd (ops i) = 2 ∨ kd (ops i) = 3 ∨ kd (ops i) = 5 := by have := kd_lt (ops i); omega
        · have hk : ((ops i).k : Int) % 6 = 0 := by unfold kd at hk0; omega
          go_wp2_with fail
          refine (const_mk _ _).mono ?_
          rintro e W ⟨rfl, rfl⟩
          go_wp2_with (at_builtin; refine wpList_append_lies _ rfl _ _ 43 rfl w.heap.size 46 z0 .nilIface 1 16 Yba.underlying43 hinf hz0 hz1 hz2 rfl (by decide) u7 ys.length ys rfl ?b2 ⟨wr.heap.size + 3, 0, none⟩ 1 1 [.iface 62 (.pointer (some ⟨wr.heap.size + 2, 0, none⟩))] rfl rfl ?b6 ?b7 (by decide) ?b8 ?b9 ?b10 (wr.heap.size + 4) ?b12 ?b13)
          case b2 => exact (((B1.out.own.alloc _).alloc _).alloc _).alloc _
          case b6 => exact World.news_of_block (cs := #[.iface 62 (.pointer (some ⟨wr.heap.size + 2, 0, none⟩))]) (t := 46) (fr := (0, 0)) (by exact allocs_get [_, _, _, _] wr 3 (by simp))
          case b7 => simp [Value.oneCell']
          case b8 => unfold maxLen; omega
          case b9 => omega
          case b10 => simp; omega
          case b12 => simp
          intro g cap w' hown hgrow hat hlt2
          have B2 := B1.out.addL (os := [_, _, _, _]) hlt hown hgrow hat (fun w'' h => mk_set hk0 rfl h)
          have HN := hide (nx_plain' (ops := ops) (hi := hi) (i := i) hk4)
          clear hown hgrow hat hlt2 B1
          go_wp2_with fail
          go_roundw
          case rel => exact ⟨i + 1, _, by omega, hlt, by go_num, by rw [← HN.out]; exact B2⟩
          case measure => simp [intOf]; omega
        · have hk : ((ops i).k : Int) % 6 = 1 := by unfold kd at hk0; omega
          go_wp2_with fail
          refine (copy_mk _ _).mono ?_
          rintro e W ⟨rfl, rfl⟩
          go_wp2_with (at_builtin; refine wpList_append_lies _ rfl _ _ 43 rfl w.heap.size 46 z0 .nilIface 1 16 Yba.underlying43 hinf hz0 hz1 hz2 rfl (by decide) u7 ys.length ys rfl ?c2 ⟨wr.heap.size + 3, 0, none⟩ 1 1 [.iface 62 (.pointer (some ⟨wr.heap.size + 2, 0, none⟩))] rfl rfl ?c6 ?c7 (by decide) ?c8 ?c9 ?c10 (wr.heap.size + 4) ?c12 ?c13)
          case c2 => exact (((B1.out.own.alloc _).alloc _).alloc _).alloc _
          case c6 => exact World.news_of_block (cs := #[.iface 62 (.pointer (some ⟨wr.heap.size + 2, 0, none⟩))]) (t := 46) (fr := (0, 0)) (by exact allocs_get [_, _, _, _] wr 3 (by simp))
          case c7 => simp [Value.oneCell']
          case c8 => unfold maxLen; omega
          case c9 => omega
          case c10 => simp; omega
          case c12 => simp
          intro g cap w' hown hgrow hat hlt2
          have B2 := B1.out.addL (os := [_, _, _, _]) hlt hown hgrow hat (fun w'' h => mk_copy hk0 rfl h)
          have HN := hide (nx_plain' (ops := ops) (hi := hi) (i := i) hk4)
          clear hown hgrow hat hlt2 B1
          go_wp2_with fail
          go_roundw
          case rel => exact ⟨i + 1, _, by omega, hlt, by go_num, by rw [← HN.out]; exact B2⟩
          case measure => simp [intOf]; omega
        · have hk : ((ops i).k : Int) % 6 = 2 := by unfold kd at hk0; omega
          go_wp2_with fail
          refine (eq_mk _ _ _ _).mono ?_
          rintro e W ⟨rfl, rfl⟩
          go_wp2_with (at_builtin; refine wpList_append_lies _ rfl _ _ 43 rfl w.heap.size 46 z0 .nilIface 1 16 Yba.underlying43 hinf hz0 hz1 hz2 rfl (by decide) u7 ys.length ys rfl ?d2 ⟨wr.heap.size + 5, 0, none⟩ 1 1 [.iface 47 (.pointer (some ⟨wr.heap.size + 4, 0, none⟩))] rfl rfl ?d6 ?d7 (by decide) ?d8 ?d9 ?d10 (wr.heap.size + 6) ?d12 ?d13)
          case d2 => exact (((((B1.out.own.alloc _).alloc _).alloc _).alloc _).alloc _).alloc _
          case d6 => exact World.news_of_block (cs := #[.iface 47 (.pointer (some ⟨wr.heap.size + 4, 0, none⟩))]) (t := 46) (fr := (0, 0)) (by exact allocs_get [_, _, _, _, _, _] wr 5 (by simp))
          case d7 => simp [Value.oneCell']
          case d8 => unfold maxLen; omega
          case d9 => omega
          case d10 => simp; omega
          case d12 => simp
          intro g cap w' hown hgrow hat hlt2
          have B2 := B1.out.addL (os := [_, _, _, _, _, _]) hlt hown hgrow hat (fun w'' h => mk_req (.inl ⟨hk0, rfl⟩) rfl h)
          have HN := hide (nx_plain' (ops := ops) (hi := hi) (i := i) hk4)
          clear hown hgrow hat hlt2 B1
          go_wp2_with fail
          go_roundw
          case rel => exact ⟨i + 1, _, by omega, hlt, by go_num, by rw [← HN.out]; exact B2⟩
          case measure => simp [intOf]; omega
        · have hk : ((ops i).k : Int) % 6 = 3 := by unfold kd at hk0; omega
          go_wp2_with fail
          refine (eq_mk _ _ _ _).mono ?_
          rintro e W ⟨rfl, rfl⟩
          go_wp2_with (at_builtin; refine wpList_append_lies _ rfl _ _ 43 rfl w.heap.size 46 z0 .nilIface 1 16 Yba.underlying43 hinf hz0 hz1 hz2 rfl (by decide) u7 ys.length ys rfl ?e2 ⟨wr.heap.size + 5, 0, none⟩ 1 1 [.iface 60 (.pointer (some ⟨wr.heap.size + 4, 0, none⟩))] rfl rfl ?e6 ?e7 (by decide) ?e8 ?e9 ?e10 (wr.heap.size + 6) ?e12 ?e13)
          case e2 => exact (((((B1.out.own.alloc _).alloc _).alloc _).alloc _).alloc _).alloc _
          case e6 => exact World.news_of_block (cs := #[.iface 60 (.pointer (some ⟨wr.heap.size + 4, 0, none⟩))]) (t := 46) (fr := (0, 0)) (by exact allocs_get [_, _, _, _, _, _] wr 5 (by simp))
          case e7 => simp [Value.oneCell']
          case e8 => unfold maxLen; omega
          case e9 => omega
          case e10 => simp; omega
          case e12 => simp
          intro g cap w' hown hgrow hat hlt2
          have B2 := B1.out.addL (os := [_, _, _, _, _, _]) hlt hown hgrow hat (fun w'' h => mk_asg hk0 rfl h)
          have HN := hide (nx_plain' (ops := ops) (hi := hi) (i := i) hk4)
          clear hown hgrow hat hlt2 B1
          go_wp2_with fail
          go_roundw
          case rel => exact ⟨i + 1, _, by omega, hlt, by go_num, by rw [← HN.out]; exact B2⟩
          case measure => simp [intOf]; omega
        · have hk : ((ops i).k : Int) % 6 = 5 := by unfold kd at hk0; omega
          go_wp2_with fail
          refine (eq_mk _ _ _ _).mono ?_
          rintro e W ⟨rfl, rfl⟩
          go_wp2_with (at_builtin; refine wpList_append_lies _ rfl _ _ 43 rfl w.heap.size 46 z0 .nilIface 1 16 Yba.underlying43 hinf hz0 hz1 hz2 rfl (by decide) u7 ys.length ys rfl ?f2 ⟨wr.heap.size + 5, 0, none⟩ 1 1 [.iface 47 (.pointer (some ⟨wr.heap.size + 4, 0, none⟩))] rfl rfl ?f6 ?f7 (by decide) ?f8 ?f9 ?f10 (wr.heap.size + 6) ?f12 ?f13)
          case f2 => exact (((((B1.out.own.alloc _).alloc _).alloc _).alloc _).alloc _).alloc _
          case f6 => exact World.news_of_block (cs := #[.iface 47 (.pointer (some ⟨wr.heap.size + 4, 0, none⟩))]) (t := 46) (fr := (0, 0)) (by exact allocs_get [_, _, _, _, _, _] wr 5 (by simp))
          case f7 => simp [Value.oneCell']
          case f8 => unfold maxLen; omega
          case f9 => omega
          case f10 => simp; omega
          case f12 => simp
          intro g cap w' hown hgrow hat hlt2
          have B2 := B1.out.addL (os := [_, _, _, _, _, _]) hlt hown hgrow hat (fun w'' h => mk_req (.inr ⟨hk0, rfl⟩) rfl h)
          have HN := hide (nx_plain' (ops := ops) (hi := hi) (i := i) hk4)
          clear hown hgrow hat hlt2 B1
          go_wp2_with fail
          go_roundw
          case rel => exact ⟨i + 1, _, by omega, hlt, by go_num, by rw [← HN.out]; exact B2⟩
          case measure => simp [intOf]; omega
    · obtain rfl : i = hi := by omega
      go_wp2_with fail
      go_ret
      obtain ⟨d1, d2, d3⟩ := B1.out.done
      exact ⟨_, ys, rfl, d1, d2, d3⟩

set_option maxHeartbeats 400000 in
theorem build_zero (ops : Nat → O5) : BuildOK ops 0 := by
  intro w ao n c lo hi hO hn hlo hhi hD
  obtain rfl : lo = hi := by omega
  clear hO
  go_enter Yba.func12, Yba.ntmps12
  go_wp2_with fail
  go_loopw [7, 8] (fun out iv wr => out = .slice none 0 0 ∧ iv = .int .i64 (lo : Nat) ∧ wr = w) (fun _ _ _ => 0)
  case atStart => exact ⟨rfl, rfl, rfl⟩
  case round =>
    obtain ⟨rfl, rfl, rfl⟩ := hrel
    go_wp2_with fail
    go_ret
    exact ⟨_, [], rfl, ⟨none, 0, rfl, Nat.le_refl _, Nat.zero_le _, .inl rfl⟩, rfl, Below.refl _ _⟩

/-- THE BUILDER's CONTRACT. -/
theorem build_all (ops : Nat → O5) : ∀ D, BuildOK ops D
  | 0 => build_zero ops
  | D + 1 => build_step ops D (build_all ops D)
end Go.Proofs.Ybulkbvqe
