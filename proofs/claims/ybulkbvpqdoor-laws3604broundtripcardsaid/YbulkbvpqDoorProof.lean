/-
  SEAT b3604aD: THE ROW OF LawS3604BRoundTrip PROVED, AND ITS TIED CARD.
-/
import Derived.Test.YbulkbvpqDoorRows
import Derived.Test.YbulkbvpqDoorTie
import Derived.Test.YbulkbvpqDoorCards
import Derived.Test.YbulkbvpqDoorLaw
import Derived.ProofKit
import Derived.OpenShut
import Derived.ChangeOld
import Derived.ChangeVars
import Derived.RowKitTokens
import Derived.LaidMore
import Derived.LaidLaws
import Derived.Stop.Joined
import Derived.Stop.LaidErr
import Derived.WalkSmall
import Derived.SevenTiedAt
namespace Go.Proofs.YbulkbvpqDoor.roundTrip
open Go.ChangeShapes Go.WideShapes Go.ChangeAt Go.RowKit
set_option linter.unusedVariables false

theorem own : ownKnob Ybad.prog.godebug = none := by kernel_rfl
theorem laidOut : laidOutB Ybad.prog = true := by kernel_rfl
/-- The listed variable's name, off the given specification. -/
abbrev nmErr : String := Rows.lawS3604BRoundTripSpec.vars.headD ""
/-- The listed datum's type name, off the given row. -/
abbrev nmType : String := match (Rows.laid_example_com_namelease_namelease_dnsmsg_errMalformed : DataW Unit) with | .iface n _ => n | _ => ""
theorem gErr : Ybad.prog.globalNamed nmErr = some 1 := by kernel_rfl
theorem gErrType : (Ybad.prog.globals[1]?).map (·.type) = some 32 := by kernel_rfl
theorem cells70 : Ybad.prog.cellsOf 70 = 1 := by kernel_rfl
theorem cells9 : Ybad.prog.cellsOf 9 = 1 := by kernel_rfl
theorem row51 (u : TypeId) (h : Ybad.prog.typeName? 3 u = some nmType) : u = 51 :=
  typeName_ptr_named (nm := "errors.errorString") (by kernel_rfl) (by kernel_rfl) (by decide) u (h.trans (congrArg some (by decide)))

theorem lt_of_var {P : Program} {W : World} {n : String} {g : Nat} {cs : Array Value} (hg : P.globalNamed n = some g) (hv : W.var? P n = some cs) : g < W.heap.size := by
  unfold World.var? at hv
  simp only [hg, Option.bind_some] at hv
  rcases Nat.lt_or_ge g W.heap.size with h | h
  · exact h
  · simp [Array.getElem?_eq_none h] at hv

/-- WHAT THE WALK IS TOLD OF A SLICE OF BYTES THAT CAME IN. -/
def IsRow (k : IntKind) (w : World) (a : Option Addr) (len cap : Nat) (zs : List Int) : Prop :=
  (a = none ∧ len = 0 ∧ cap = 0 ∧ zs = []) ∨
  ∃ x, a = some x ∧ len ≤ cap ∧ cap ≤ maxLen ∧ zs.length = cap ∧ (∀ i, i < zs.length → w.cell? (x.add i) = some (.int k (zs.getD i 0))) ∧ ∀ n ∈ zs, (Lit.int k n).wf = true

theorem row_of {w : World} {a : Option Addr} {len cap : Nat} {zs : List Int} (h : IsRow .u8 w a len cap zs) : (zs.take len).length = len ∧ Row w a (zs.take len) := by
  rcases h with ⟨rfl, rfl, rfl, rfl⟩ | ⟨x, rfl, hl, _, hz, hc, _⟩
  · exact ⟨rfl, .inl rfl⟩
  · refine ⟨by simp; omega, ?_⟩
    by_cases h0 : len = 0
    · subst h0; exact .inl (by simp)
    · obtain ⟨b, o, sp⟩ := x
      have hs : sp = none := by simpa [Addr.add] using World.cell?_spot (hc 0 (by omega))
      subst hs
      refine .inr ⟨b, o, rfl, fun i hi => ?_⟩
      have hi' : i < len := by simp at hi; omega
      have := hc i (by omega)
      rw [Addr.add_lit] at this
      rw [this]
      simp [List.getD, hi']

theorem len_of {w : World} {a : Option Addr} {len cap : Nat} {zs : List Int} (h : IsRow .u8 w a len cap zs) : len ≤ maxLen ∧ (a = none → len = 0 ∧ cap = 0) := by
  rcases h with ⟨_, rfl, rfl, _⟩ | ⟨x, rfl, hl, hm, _⟩
  · exact ⟨Nat.zero_le _, fun _ => ⟨rfl, rfl⟩⟩
  · exact ⟨by omega, fun h => by cases h⟩

theorem walk (a0 a1 : Int) (a2 : Option Addr) (len2 cap2 : Nat) (z2 : List Int) (a3 : Option Addr) (len3 cap3 : Nat) (z3 : List Int) (w : World) (w0 : (Lit.int .u16 a0).wf = true) (w1 : (Lit.int .u16 a1).wf = true) (w2 : IsRow .u8 w a2 len2 cap2 z2) (w3 : IsRow .u8 w a3 len3 cap3 z3) :
    Calls Ybad.prog 3 #[.int .u16 a0, .int .u16 a1, .slice a2 len2 cap2, .slice a3 len3 cap3] w fun e w' => e = .returned (.bool true) ∧ Below w.heap.size w w' := by
  have h0 := bounds_u16 w0
  have h1 := bounds_u16 w1
  obtain ⟨e2, r2⟩ := row_of w2
  obtain ⟨e3, r3⟩ := row_of w3
  obtain ⟨l2, n2⟩ := len_of w2
  obtain ⟨l3, _⟩ := len_of w3
  by_cases g2 : 4096 < len2
  · exact law_big0 a0 a1 a2 len2 cap2 a3 len3 cap3 w g2 l2 l3
  · by_cases g3 : 4096 < len3
    · exact law_big2 a0 a1 a2 len2 cap2 a3 len3 cap3 w (by omega) g3 l3
    · exact law_main a0 a1 a2 len2 cap2 (z2.take len2) a3 len3 cap3 (z3.take len3) w (by omega) (by omega) e2 e3 h0.1 h0.2 h1.1 h1.2 r2 r3 n2

/-- The door's own heap meets the condition. -/
theorem door_met (os : Os) (args : Array Value) : laidMetH Ybad.prog Rows.lawS3604BRoundTripRow.laid ((World.doorLaid Ybad.prog 400 os).forCall (fun _ _ => 0) ⟨#[], args, []⟩).memory :=
  laidMetH_of_parts3 (fuel := 8) (laidMet_of_run' 8 (by kernel_rfl) (by kernel_rfl)) (by kernel_rfl) (by kernel_rfl)

set_option maxRecDepth 100000 in
theorem lifted (os : Os) (started : os.Started) (H : Type) (enc : TypeId × Value → H) :
    ReturnsInHanded {} Ybad.checked os 3 .any (fun w args => (Rows.lawS3604BRoundTripSpec.pre enc Ybad.prog Ybad.f3 [] false w args ∧ laidMetH Ybad.prog Rows.lawS3604BRoundTripRow.laid w) ∧ sizedMet enc Ybad.prog Ybad.f3 (OpenSpec.ofChange Rows.lawS3604BRoundTripSpec) false w args)
      (Rows.lawS3604BRoundTripSpec.post enc Ybad.prog Ybad.f3 false true false false) := by
  refine returnsInHanded_of_change_and (C := Ybad.checked) (X := fun w _ => laidMetH Ybad.prog Rows.lawS3604BRoundTripRow.laid w) (fun _ _ _ hh h => h.of_heap hh) own started (by kernel_rfl) Ybad.func3
    (ChangeSpec.witness_shaped (enc := enc) (C := Ybad.checked) (os := os) (X := fun w _ => laidMetH Ybad.prog Rows.lawS3604BRoundTripRow.laid w) false (World.doorLaid Ybad.prog 400 os) #[.int .u16 0, .int .u16 0, .slice none 0 0, .slice none 0 0] 8 rfl (World.shaped_of_RefB (by kernel_rfl) (by kernel_rfl)) (by kernel_rfl) (by kernel_rfl) (by kernel_rfl) (door_met os _)) ?_
  intro W base args ds gs before hval0 hW _ _ hL _
  have hval : ∀ (j : Nat) t v, Ybad.f3.params[j]? = some t → args[j]? = some v → Value.okWide Ybad.prog W .any base t v := hval0
  have hW' := hW
  obtain ⟨p, q, hA0, hV0, rfl, hfz, hnd⟩ := hW
  have hA : DataW.TrodAll enc Ybad.prog W 0 (fun _ => true) true Ybad.f3.params.toList args.toList ds p := hA0
  have hV : DataW.TrodVars enc Ybad.prog W (fun _ => true) [nmErr] gs q := hV0
  rw [Ybad.params3] at hA hval
  obtain ⟨v0, vs0, d0, ds0, p0, q0, hargs, rfl, rfl, h0, r0⟩ := trodAll_cons hA
  obtain ⟨v1, vs1, d1, ds1, p1, q1, rfl, rfl, rfl, h1, r1⟩ := trodAll_cons r0
  obtain ⟨v2, vs2, d2, ds2, p2, q2, rfl, rfl, rfl, h2, r2⟩ := trodAll_cons r1
  obtain ⟨v3, vs3, d3, ds3, p3, q3, rfl, rfl, rfl, h3, r3⟩ := trodAll_cons r2
  obtain ⟨rfl, rfl, rfl⟩ := trodAll_nil r3
  obtain rfl : args = #[v0, v1, v2, v3] := by cases args; simp_all
  have hL1 : laidMet Ybad.prog Rows.lawS3604BRoundTripRow.laid W := by
    have := hL
    rwa [MakeChecks.laidMetH_plain _ _ _ (by kernel_rfl)] at this
  obtain ⟨ae, se, hve, hce, hse, hze⟩ := laid_sentinel hL1 gErr gErrType Ybad.underlying32 row51 Ybad.underlying51 Ybad.underlying70 rfl rfl Ybad.underlying9 cells70 cells9
  obtain ⟨rfl, rfl⟩ := hV.unique (vars_read1 enc gErr gErrType Ybad.underlying32 hve trivial _)
  obtain ⟨a0, rfl, rfl, rfl, w0⟩ := open_int Ybad.underlying22 (hval 0 22 v0 rfl rfl) h0
  obtain ⟨a1, rfl, rfl, rfl, w1⟩ := open_int Ybad.underlying22 (hval 1 22 v1 rfl rfl) h1
  obtain ⟨a2, len2, cap2, rfl⟩ := okWide_slice Ybad.underlying23 (hval 2 23 v2 rfl rfl)
  have k2 := h2
  have lt2 : ∀ x ∈ p2, x.block < W.heap.size := by obtain ⟨m, hm⟩ := k2; exact DataW.trod_lt m _ _ _ hm
  obtain ⟨z2, w2⟩ : ∃ zs, IsRow .u8 W a2 len2 cap2 zs := by
    obtain ⟨fuel, hf⟩ := h2
    rcases open_ints Ybad.underlying23 Ybad.underlying5 (by kernel_rfl) hf with ⟨hcs, _⟩ | ⟨x, l, c, zs, hcs, _, hl, hm, hz, _, hcell, hwz⟩
    · simp [Value.cells] at hcs
      obtain ⟨rfl, rfl, rfl⟩ := hcs
      exact ⟨[], .inl ⟨rfl, rfl, rfl, rfl⟩⟩
    · simp [Value.cells] at hcs
      obtain ⟨rfl, rfl, rfl⟩ := hcs
      exact ⟨zs, .inr ⟨_, rfl, hl, hm, by simpa using hz, hcell, hwz⟩⟩
  obtain ⟨a3, len3, cap3, rfl⟩ := okWide_slice Ybad.underlying23 (hval 3 23 v3 rfl rfl)
  have k3 := h3
  have lt3 : ∀ x ∈ p3, x.block < W.heap.size := by obtain ⟨m, hm⟩ := k3; exact DataW.trod_lt m _ _ _ hm
  obtain ⟨z3, w3⟩ : ∃ zs, IsRow .u8 W a3 len3 cap3 zs := by
    obtain ⟨fuel, hf⟩ := h3
    rcases open_ints Ybad.underlying23 Ybad.underlying5 (by kernel_rfl) hf with ⟨hcs, _⟩ | ⟨x, l, c, zs, hcs, _, hl, hm, hz, _, hcell, hwz⟩
    · simp [Value.cells] at hcs
      obtain ⟨rfl, rfl, rfl⟩ := hcs
      exact ⟨[], .inl ⟨rfl, rfl, rfl, rfl⟩⟩
    · simp [Value.cells] at hcs
      obtain ⟨rfl, rfl, rfl⟩ := hcs
      exact ⟨zs, .inr ⟨_, rfl, hl, hm, by simpa using hz, hcell, hwz⟩⟩
  clear hA0 hval0 hV0
  have hgs : 1 < W.heap.size := lt_of_var gErr hve
  refine (walk a0 a1 a2 len2 cap2 z2 a3 len3 cap3 z3 W w0 w1 w2 w3).mono fun e W' ⟨he, bel⟩ => ?_
  subst he
  refine ⟨_, rfl, _, _, _, [], _, [.cell 1 0], hW', trodAll_mk1 (shut_bool Ybad.underlying4 _), (trodAll_cons_mk (shut_int Ybad.underlying22 w0) (trodAll_cons_mk (shut_int Ybad.underlying22 w1) (trodAll_cons_mk (Below.trod laidOut (by kernel_rfl) (of_decide_eq_true (by kernel_rfl)) k2 bel lt2) (trodAll_cons_mk (Below.trod laidOut (by kernel_rfl) (of_decide_eq_true (by kernel_rfl)) k3 bel lt3) trodAll_mk0)))), ?_, bel.frame _, fun h => by cases h⟩
  exact vars_read1 enc gErr gErrType Ybad.underlying32 (var?_below bel gErr hgs hve) trivial _

theorem row_holds : Rows.LawS3604BRoundTripSaid :=
  OpenClaim.holds_of_wide 3 Ybad.f3 rfl rfl rfl rfl rfl rfl rfl ⟨rfl, rfl, rfl, rfl, rfl⟩ rfl rfl rfl rfl rfl (by kernel_rfl) Ybad.func3 (by kernel_rfl)
    (of_decide_eq_true (by kernel_rfl)) (by unfold Func.isWrapper; first | (rw [if_pos (by decide +kernel)]; kernel_rfl) | (rw [if_neg (by decide +kernel)]; exact ⟨rfl, rfl⟩))
    (fun os started H enc _ => lifted os started H enc)

/-- ████ THE STATEMENT: THE TIED CARD ████ -/
theorem proved : Rows.LawS3604BRoundTripCardSaid :=
  Claim7.holds_tied_plain_at .later [] [.sentinel] true Rows.lawS3604BRoundTripCard.stood.harness false
    row_holds (fun _ h => by cases h) (by kernel_rfl) (fun _ h => by cases h) lawS3604BRoundTrip_row_tie rfl ⟨rfl, rfl⟩ (by kernel_rfl) rfl
    (fun f fn hf hfn => by
      obtain rfl : f = 3 := Option.some.inj ((show Ybad.prog.funcNamed Rows.lawS3604BRoundTripRow.func = some 3 by kernel_rfl).symm.trans hf) |>.symm
      obtain rfl : fn = Ybad.f3 := (Option.some.inj (Ybad.func3.symm.trans hfn)).symm
      exact ⟨by kernel_rfl, fun j t ht => by
        rw [Ybad.params3] at ht
        have hm : t ∈ [22, 22, 23, 23] := by simpa using Array.mem_of_getElem? ht
        have hall : ([22, 22, 23, 23].all fun u => !Ybad.prog.wantsStandIn u) = true := by kernel_rfl
        exact (show Ybad.prog.wantsStandIn t = false by simpa using List.all_eq_true.1 hall t hm)⟩)
    (by kernel_rfl)
end Go.Proofs.YbulkbvpqDoor.roundTrip
