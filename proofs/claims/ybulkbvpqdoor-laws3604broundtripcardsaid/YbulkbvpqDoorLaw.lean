/-
  WALK for seat b3604aD: LawS3604BRoundTrip.
-/
import Derived.Test.YbulkbvpqDoorApp2
namespace Go.Proofs.YbulkbvpqDoor
open Go.ChangeShapes Go.WideShapes Go.ChangeAt Go.RowKit
set_option linter.unusedVariables false

theorem below_drewN {B : Nat} {a w : World} (h : Below B a w) (n : Nat) : Below B a (w.drewN n) := h.trans ⟨rfl, rfl, rfl, Nat.le_refl _, fun _ _ => rfl⟩

theorem owned_cells {w : World} {B : Nat} {v : Value} {N : Nat} {L : List Int} (h : w.ownsRow B 5 1 v N (L.map (Value.int .u8))) (hpos : 0 < N) :
    ∃ g cap, v = .slice (some ⟨g, 0, none⟩) N cap ∧ B ≤ g ∧ g < w.heap.size ∧ N ≤ cap ∧ cap ≤ maxLen ∧ ∀ i, i < N → w.cell? ⟨g, i, none⟩ = some (.int .u8 (L.getD i 0)) := by
  obtain ⟨h1, h2⟩ := h
  have hl : L.length = N := by simpa using h1
  rcases h2 with ⟨_, h2⟩ | ⟨g, cap, cur, hv, hB, hh, hn, hm, _, ht⟩
  · omega
  · refine ⟨g, cap, hv, hB, lt_of_block hh, hn, hm, fun i hi => ?_⟩
    simp only [World.cell?, hh]
    have e : (cur.toList.take (N * 1))[i]? = some (.int .u8 (L.getD i 0)) := by
      rw [ht]
      simp [List.getD, show i < L.length by omega]
    rw [List.getElem?_take] at e
    simp at e
    simpa using e.2

theorem owns_below {w w' : World} {B : Nat} {v : Value} {n : Nat} {xs : List Value} (h : w.ownsRow B 5 1 v n xs) (hb : Below w.heap.size w w') : w'.ownsRow B 5 1 v n xs := by
  obtain ⟨h1, h2⟩ := h
  refine ⟨h1, ?_⟩
  rcases h2 with h2 | ⟨g, cap, cur, hv, hB, hh, r⟩
  · exact .inl h2
  · exact .inr ⟨g, cap, cur, hv, hB, (hb.block g (lt_of_block hh)).trans hh, r⟩

theorem Row.news {w : World} {a : Option Addr} {zs : List Int} (h : Row w a zs) : ∀ ad, a = some ad → ∀ j u, (zs.map (Value.int .u8))[j]? = some u → w.cell? (ad.add j) = some u := by
  intro ad ha j u hj
  have hlt : j < zs.length := by
    have := (List.getElem?_eq_some_iff.1 hj).1
    simpa using this
  rcases h with h | ⟨b, o, h, hc⟩
  · simp [h] at hlt
  · rw [ha] at h
    cases h
    rw [Addr.add_lit, hc j hlt]
    simp [hlt] at hj
    simp [List.getD, hlt, hj]

theorem nine_owned (w : World) : (w.alloc (.cells #[.int .u8 0, .int .u8 0, .int .u8 0, .int .u8 0, .int .u8 0, .int .u8 0, .int .u8 0, .int .u8 0, .int .u8 0] 5)).ownsRow w.heap.size 5 1 (.slice (some ⟨w.heap.size, 0, none⟩) 9 9) 9 (([0, 0, 0, 0, 0, 0, 0, 0, 0] : List Int).map (Value.int .u8)) :=
  ⟨rfl, .inr ⟨w.heap.size, 9, _, rfl, Nat.le_refl _, heap_alloc_new w _, Nat.le_refl _, by decide, rfl, rfl⟩⟩

theorem two_at (w : World) (x y : Value) (t : TypeId) : ∀ j u, [x, y][j]? = some u → (w.alloc (.cells #[x, y] t)).cell? ((⟨w.heap.size, 0, none⟩ : Addr).add j) = some u := by
  intro j u hj
  have hh := heap_alloc_new w (.cells #[x, y] t)
  match j, hj with
  | 0, hj => simp at hj; subst hj; rw [Addr.add_lit]; simp only [World.cell?, hh]; rfl
  | 1, hj => simp at hj; subst hj; rw [Addr.add_lit]; simp only [World.cell?, hh]; rfl
  | j + 2, hj => simp at hj

theorem step1 (w : World) (v1 : Value) (w1 : World) (o1 : Obj) (o2 : Obj) (c : Nat) (x y : Int)
    (hown : w1.ownsRow w.heap.size 5 1 v1 (9 + 2) (([0, 0, 0, 0, 0, 0, 0, 0, 0] : List Int).map (Value.int .u8) ++ [.int .u8 x, .int .u8 y]))
    (hg : ((w.alloc o1).alloc o2).grownBy w1 (Value.slice (some ⟨w.heap.size, 0, none⟩) 9 c).ownBlock) :
    Hid (w1.ownsRow w.heap.size 5 1 v1 11 (([0, 0, 0, 0, 0, 0, 0, 0, 0, x, y] : List Int).map (Value.int .u8)) ∧ Below w.heap.size w w1) :=
  ⟨hown, (((Below.refl _ _).alloc (Nat.le_refl _) _).alloc (by simp) _).grown hg (by simp; omega) (fun k hk => by simp [Value.ownBlock] at hk; omega)⟩

theorem step2 (w : World) (v1 v2 : Value) (w1 w2 : World) (n : Nat) (L zs : List Int) (h : Hid (w1.ownsRow w.heap.size 5 1 v1 11 (L.map (Value.int .u8)) ∧ Below w.heap.size w w1))
    (hown : w2.ownsRow w.heap.size 5 1 v2 (11 + n) (L.map (Value.int .u8) ++ zs.map (Value.int .u8))) (hg : w1.grownBy w2 v1.ownBlock) :
    Hid (w2.ownsRow w.heap.size 5 1 v2 (11 + n) ((L ++ zs).map (Value.int .u8)) ∧ Below w.heap.size w w2) :=
  ⟨by simpa using hown, h.out.2.grown hg h.out.2.size (fun k hk => (h.out.1.lt k hk).1)⟩

theorem step3 (w : World) (v2 v3 : Value) (w2 w3 : World) (n : Nat) (o : Obj) (L : List Int) (x y : Int) (h : Hid (w2.ownsRow w.heap.size 5 1 v2 (11 + n) (L.map (Value.int .u8)) ∧ Below w.heap.size w w2))
    (hown : w3.ownsRow w.heap.size 5 1 v3 (11 + n + 2) (L.map (Value.int .u8) ++ [.int .u8 x, .int .u8 y])) (hg : (w2.alloc o).grownBy w3 v2.ownBlock) :
    Hid (w3.ownsRow w.heap.size 5 1 v3 (13 + n) ((L ++ [x, y]).map (Value.int .u8)) ∧ Below w.heap.size w w3) := by
  refine ⟨?_, ((h.out.2.alloc h.out.2.size _).grown hg (Nat.le_trans h.out.2.size (by simp)) (fun k hk => (h.out.1.lt k hk).1))⟩
  rw [show 13 + n = 11 + n + 2 by omega]
  simpa using hown

/-- The record data that the law builds. -/
def wire (zs os : List Int) (n m : Nat) (oid code : Int) : List Int :=
  [0, 0, 0, 0, 0, 0, 0, 0, 0, (n : Int) / 256, (n : Int) % 256] ++ zs ++ [oid / 256, oid % 256] ++ ([code / 256, code % 256, (m : Int) / 256, (m : Int) % 256] ++ os)
theorem wire_0 (zs os : List Int) (n m : Nat) (oid code : Int) (i : Nat) (hi : i < 9) : (wire zs os n m oid code).getD i 0 = 0 := by
  have : i = 0 ∨ i = 1 ∨ i = 2 ∨ i = 3 ∨ i = 4 ∨ i = 5 ∨ i = 6 ∨ i = 7 ∨ i = 8 := by omega
  rcases this with rfl | rfl | rfl | rfl | rfl | rfl | rfl | rfl | rfl <;> rfl
theorem wire_9 (zs os : List Int) (n m : Nat) (oid code : Int) : (wire zs os n m oid code).getD 9 0 = (n : Int) / 256 := rfl
theorem wire_10 (zs os : List Int) (n m : Nat) (oid code : Int) : (wire zs os n m oid code).getD 10 0 = (n : Int) % 256 := rfl
theorem wire_mac (zs os : List Int) (n m : Nat) (oid code : Int) (h : zs.length = n) (i : Nat) (hi : i < n) : (wire zs os n m oid code).getD (11 + i) 0 = zs.getD i 0 := by
  have e : 11 + i = i + 11 := by omega
  rw [e]
  simp [wire, List.getD, h, hi, List.getElem?_append]
theorem wire_off (zs os : List Int) (n m : Nat) (oid code : Int) (h : zs.length = n) (k : Nat) : (wire zs os n m oid code).getD (11 + n + k) 0 = ([oid / 256, oid % 256, code / 256, code % 256, (m : Int) / 256, (m : Int) % 256] ++ os).getD k 0 := by
  have e : 11 + n + k = (n + k) + 11 := by omega
  rw [e]
  have e2 : n + k - n = k := by omega
  have e3 : ¬ n + k < n := by omega
  simp [wire, List.getD, h, List.getElem?_append, e2, e3]
theorem wire_d (zs os : List Int) (n m : Nat) (oid code : Int) (h : zs.length = n) :
    (wire zs os n m oid code).getD (11 + n) 0 = oid / 256 ∧ (wire zs os n m oid code).getD (11 + n + 1) 0 = oid % 256 ∧ (wire zs os n m oid code).getD (11 + n + 2) 0 = code / 256 ∧ (wire zs os n m oid code).getD (11 + n + 2 + 1) 0 = code % 256 ∧
      (wire zs os n m oid code).getD (15 + n) 0 = (m : Int) / 256 ∧ (wire zs os n m oid code).getD (15 + n + 1) 0 = (m : Int) % 256 := by
  refine ⟨wire_off zs os n m oid code h 0, wire_off zs os n m oid code h 1, wire_off zs os n m oid code h 2, wire_off zs os n m oid code h 3, ?_, ?_⟩
  · rw [show 15 + n = 11 + n + 4 by omega]; exact wire_off zs os n m oid code h 4
  · rw [show 15 + n + 1 = 11 + n + 5 by omega]; exact wire_off zs os n m oid code h 5
theorem wire_other (zs os : List Int) (n m : Nat) (oid code : Int) (h : zs.length = n) (i : Nat) : (wire zs os n m oid code).getD (17 + n + i) 0 = os.getD i 0 := by
  rw [show 17 + n + i = 11 + n + (i + 6) by omega, wire_off zs os n m oid code h (i + 6)]
  simp [List.getD]

set_option maxHeartbeats 400000 in
theorem law_big0 (code oid : Int) (a0 : Option Addr) (n c0 : Nat) (a2 : Option Addr) (m c2 : Nat) (w : World) (hn : 4096 < n) (hn' : n ≤ maxLen) (hm' : m ≤ maxLen) :
    Calls Ybad.prog 3 #[.int .u16 code, .int .u16 oid, .slice a0 n c0, .slice a2 m c2] w fun e w' => e = .returned (.bool true) ∧ Below w.heap.size w w' := by
  unfold maxLen at hn' hm'
  go_enter Ybad.func3, Ybad.ntmps3
  go_wp2
  go_ret
  exact ⟨rfl, Below.refl _ _⟩

set_option maxHeartbeats 400000 in
theorem law_big2 (code oid : Int) (a0 : Option Addr) (n c0 : Nat) (a2 : Option Addr) (m c2 : Nat) (w : World) (hn : n ≤ 4096) (hm : 4096 < m) (hm' : m ≤ maxLen) :
    Calls Ybad.prog 3 #[.int .u16 code, .int .u16 oid, .slice a0 n c0, .slice a2 m c2] w fun e w' => e = .returned (.bool true) ∧ Below w.heap.size w w' := by
  unfold maxLen at hm'
  go_enter Ybad.func3, Ybad.ntmps3
  go_wp2
  go_ret
  exact ⟨rfl, Below.refl _ _⟩

set_option maxHeartbeats 1000000 in
theorem law_main (code oid : Int) (a0 : Option Addr) (n c0 : Nat) (zs : List Int) (a2 : Option Addr) (m c2 : Nat) (os : List Int) (w : World) (hn : n ≤ 4096) (hm : m ≤ 4096)
    (hz : zs.length = n) (ho : os.length = m) (h0 : 0 ≤ code) (h1 : code ≤ 65535) (g0 : 0 ≤ oid) (g1 : oid ≤ 65535) (r0 : Row w a0 zs) (r2 : Row w a2 os) (hnone : a0 = none → n = 0 ∧ c0 = 0) :
    Calls Ybad.prog 3 #[.int .u16 code, .int .u16 oid, .slice a0 n c0, .slice a2 m c2] w fun e w' => e = .returned (.bool true) ∧ Below w.heap.size w w' := by
  have H : Hid (zs.length = n ∧ os.length = m) := ⟨hz, ho⟩
  have R := hide (And.intro r0 r2)
  obtain ⟨i0, hi, hz0, hz1, hz2⟩ := info_parts Ybad.info5
  have HN := hide hnone
  clear hz ho r0 r2 hnone
  have O1 := hide (nine_owned w)
  go_enter Ybad.func3, Ybad.ntmps3
  go_wp2_with (first | (at_builtin; refine wpList_append_own_at _ rfl (.tmp 22) (.tmp 30) 23 rfl w.heap.size 5 i0 (.int .u8 0) 1 1 Ybad.underlying23 hi hz0 hz1 hz2 rfl (by decide) _ 9 _ rfl (O1.out.alloc _) ⟨w.heap.size + 1, 0, none⟩ 2 2 [.int .u8 ((n : Int) / 256), .int .u8 ((n : Int) % 256)] rfl rfl (two_new w _ _ _ _) (by simp [Value.oneCell']) (by decide) (by decide) (by simp; omega) ?_; intro v1 w1 hown1 hgr1 x1 x2; clear x1 x2; have O2 := step1 w v1 w1 _ _ _ _ _ hown1 hgr1; clear hown1 hgr1) | (at_builtin; refine wpList_append_any _ rfl (.tmp 32) (.tmp 33) 23 rfl w.heap.size 5 i0 (.int .u8 0) 1 1 Ybad.underlying23 hi hz0 hz1 hz2 rfl (by decide) _ 11 _ rfl O2.out.1 a0 n c0 (zs.map (Value.int .u8)) rfl HN.out (by simp [H.out.1]) (Row.news (R.out.1.below O2.out.2 (Nat.le_refl _))) (ints_oneCell _ _) (by unfold maxLen; omega) (by omega) O2.out.2.size ?_; intro v2 w2 hown2 hgr2 x3; clear x3; have O3 := step2 w v1 v2 w1 w2 n _ _ O2 hown2 hgr2; clear hown2 hgr2) | (at_builtin; refine wpList_append_own_at _ rfl (.tmp 35) (.tmp 41) 23 rfl w.heap.size 5 i0 (.int .u8 0) 1 1 Ybad.underlying23 hi hz0 hz1 hz2 rfl (by decide) _ (11 + n) _ rfl (O3.out.1.alloc _) ⟨w2.heap.size, 0, none⟩ 2 2 [.int .u8 (oid / 256), .int .u8 (oid % 256)] rfl rfl (two_at w2 _ _ _) (by simp [Value.oneCell']) (by unfold maxLen; omega) (by omega) (Nat.le_trans O3.out.2.size (by simp)) ?_; intro v3 w3 hown3 hgr3 x4 x5; clear x4 x5; have O4 := step3 w v2 v3 w2 w3 n _ _ _ _ O3 hown3 hgr3; clear hown3 hgr3))
  clear O1 O2 O3
  have hs3 := O4.out.2.size
  refine (clone_any a2 m c2 os _ H.out.2 hm (R.out.2.below O4.out.2 (Nat.le_refl _))).mono ?_
  rintro e w4 ⟨rfl, hk4, hb4⟩
  have HK4 := hide hk4
  have HB4 := hide hb4
  have hs4 := lt_of_block HK4.out
  have hs4' := HB4.out.size
  have O5 := hide (owns_below O4.out.1 HB4.out)
  clear hk4 hb4
  go_wp2_with fail
  refine (appErr_own w.heap.size v3 (13 + n) _ code w3.heap.size m m os _ h0 h1 (by omega) H.out.2 hm (O5.out.alloc _) (by simp; omega) ((Below.heap_alloc w4 _ _ hs4).trans HK4.out) (fun h => by have := (O4.out.1.lt _ h).2; omega)).mono ?_
  rintro e w5 ⟨v5, rfl, hown5, hg5⟩
  have hb5 : Below w.heap.size w w5 := (((O4.out.2.trans (HB4.out.mono hs3)).alloc (by omega) _).grown hg5 (by simp; omega) (fun k hk => (O4.out.1.lt k hk).1))
  have O6 : w5.ownsRow w.heap.size 5 1 v5 (17 + n + m) ((wire zs os n m oid code).map (Value.int .u8)) := by
    rw [show 17 + n + m = 13 + n + 4 + m by omega]
    simpa [wire] using hown5
  obtain ⟨g, cap, hv, hgB, hgs, hNc, hcm, hcell⟩ := owned_cells O6 (by omega)
  have HC := hide hcell
  have HV := hide hv
  have HB5 := hide hb5
  clear hcell hv hown5 hg5 hb5 O6 O5 O4 HK4 HB4 hs3 hs4 hs4'
  rw [HV.out]
  go_wp2_with fail
  refine (parse_any g cap n m oid code _ hgs hNc hcm hn hm ⟨g0, g1⟩ ⟨h0, h1⟩ ?_ ?_ ?_ ?_ ?_ ?_ ?_ ?_ ?_).mono ?_
  · intro i hi; rw [HC.out i (by omega), wire_0 _ _ _ _ _ _ i hi]
  · rw [HC.out 9 (by omega), wire_9]
  · rw [HC.out 10 (by omega), wire_10]
  · rw [HC.out (11 + n) (by omega), (wire_d zs os n m oid code H.out.1).1]
  · rw [HC.out (11 + n + 1) (by omega), (wire_d zs os n m oid code H.out.1).2.1]
  · rw [HC.out (11 + n + 2) (by omega), (wire_d zs os n m oid code H.out.1).2.2.1]
  · rw [HC.out (11 + n + 2 + 1) (by omega), (wire_d zs os n m oid code H.out.1).2.2.2.1]
  · rw [HC.out (15 + n) (by omega), (wire_d zs os n m oid code H.out.1).2.2.2.2.1]
  · rw [HC.out (15 + n + 1) (by omega), (wire_d zs os n m oid code H.out.1).2.2.2.2.2]
  rintro e w6 ⟨b1, k1, b2, k2, rfl, hm1, hm2, hb6⟩
  have HM := hide (And.intro hm1 hm2)
  have HB6 := hide hb6
  clear hm1 hm2 hb6
  go_wp2_with fail
  have hb7 : ∀ o, Below w.heap.size w (w6.alloc o) := fun o => (HB5.out.trans (HB6.out.mono (HB5.out.size))).alloc (Nat.le_trans HB5.out.size HB6.out.size) o
  have hk7 : ∀ o i, i < 17 + n + m → (w6.alloc o).cell? ⟨g, i, none⟩ = some (.int .u8 ((wire zs os n m oid code).getD i 0)) := fun o i hi =>
    (((Below.refl _ w6).alloc (Nat.le_refl _) o).cell (p := ⟨g, i, none⟩) (Nat.lt_of_lt_of_le hgs HB6.out.size)).trans ((HB6.out.cell (p := ⟨g, i, none⟩) hgs).trans (HC.out i hi))
  have rm : ∀ o, Row (w6.alloc o) b1 zs := fun o => by
    by_cases hz : n = 0
    · exact .inl (List.eq_nil_of_length_eq_zero (by rw [H.out.1, hz]))
    · refine .inr ⟨g, 11, HM.out.1 (by omega), fun i hi => ?_⟩
      rw [H.out.1] at hi
      rw [hk7 o (11 + i) (by omega), wire_mac zs os n m oid code H.out.1 i hi]
  have ro : ∀ o, Row (w6.alloc o) b2 os := fun o => by
    by_cases hz : m = 0
    · exact .inl (List.eq_nil_of_length_eq_zero (by rw [H.out.2, hz]))
    · refine .inr ⟨g, 17 + n, HM.out.2 (by omega), fun i hi => ?_⟩
      rw [H.out.2] at hi
      rw [hk7 o (17 + n + i) (by omega), wire_other zs os n m oid code H.out.1 i]
  have HR := hide (And.intro hb7 (And.intro rm ro))
  clear hb7 hk7 rm ro HC HV HB5 HB6 HM HN hgB hgs hNc hcm
  refine (eq_any _ _ m _ _ os _ H.out.2 (by omega) (HR.out.2.2 _) (R.out.2.below (HR.out.1 _) (Nat.le_refl _))).mono ?_
  rintro e w8 ⟨rfl, k8, hw8⟩
  subst hw8
  go_wp2_with fail
  refine (eq_any _ _ n _ _ zs _ H.out.1 (by omega) ((HR.out.2.1 _).drewN _) ((R.out.1.below (HR.out.1 _) (Nat.le_refl _)).drewN _)).mono ?_
  rintro e w9 ⟨rfl, k9, hw9⟩
  subst hw9
  go_wp2
  go_ret
  exact ⟨rfl, below_drewN (HR.out.1 _) _⟩
end Go.Proofs.YbulkbvpqDoor
