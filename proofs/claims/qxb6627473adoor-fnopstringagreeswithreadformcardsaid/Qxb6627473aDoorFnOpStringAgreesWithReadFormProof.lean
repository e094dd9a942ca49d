/-
  FnOpStringAgreesWithReadForm: every road; the row; the tied card.
-/
import Derived.Test.Qxb6627473aDoorLift
import Derived.Test.Qxb6627473aDoorTie
import Derived.Test.Qxb6627473aDoorCards
import Derived.SevenTiedAt
namespace Go.Proofs.Qxb6627473aDoor.fnOpStringAgreesWithReadForm
open Go.ChangeShapes Go.WideShapes Go.ChangeAt Go.RowKit
open Go.ChangeMaps (open_string shut_string)
set_option linter.unusedVariables false

theorem walk (k t v : Int) (key to : ByteArray) (nv : Bool) (w : World) (w0 : (Lit.int .u8 k).wf = true) (w1 : (Lit.int .i64 t).wf = true) (w2 : key.size ≤ maxLen) (w3 : to.size ≤ maxLen) (w4 : (Lit.int .i64 v).wf = true) (ht : Tab w) :
    Calls Tryd.prog 3 #[.int .u8 k, .int .i64 t, .string key, .string to, .int .i64 v, .bool nv] w fun e w' => e = .returned (.bool true) ∧ Below w.heap.size w w' := by
  have hb0 := bounds_u8 w0
  have hb1 := bounds_i64 w1
  have hb4 := bounds_i64 w4
  unfold maxLen at w2 w3
  by_cases hk : key.size ≤ 524288
  · by_cases hto : to.size ≤ 524288
    · by_cases h6 : k ≤ 6
      · exact form_any k t v key to nv w hb0.1 h6 hb1.1 hb1.2 hb4.1 hb4.2 hk hto ht
      · clear w0 w1 w4 ht
        go_enter Tryd.func3, Tryd.ntmps3
        go_wp2_with (go_at_call 5; refine (bytes5_any k t v key to nv _ (by omega) (by omega)).mono ?_; rintro e w' ⟨bo, rfl, hbo, hw⟩; obtain rfl := hbo (by omega) (by omega); obtain rfl := hw.symm; clear hbo hw)
        go_ret
        exact ⟨rfl, Below.refl _ _⟩
    · clear w0 w1 w4 ht
      go_enter Tryd.func3, Tryd.ntmps3
      go_wp2_with (go_at_call 5; refine (bytes5_any k t v key to nv _ (by omega) (by omega)).mono ?_; rintro e w' ⟨bo, rfl, hbo, hw⟩; obtain rfl := hw.symm; clear hbo hw)
      all_goals go_ret
      all_goals exact ⟨rfl, Below.refl _ _⟩
  · clear w0 w1 w4 ht
    go_enter Tryd.func3, Tryd.ntmps3
    go_wp2_with (go_at_call 5; refine (bytes5_any k t v key to nv _ (by omega) (by omega)).mono ?_; rintro e w' ⟨bo, rfl, hbo, hw⟩; obtain rfl := hw.symm; clear hbo hw)
    all_goals go_ret
    all_goals exact ⟨rfl, Below.refl _ _⟩

set_option maxRecDepth 100000 in
theorem lifted (os : Os) (started : os.Started) (H : Type) (enc : TypeId × Value → H) :
    ReturnsInHanded {} Tryd.checked os 3 .any (fun w args => (Rows.fnOpStringAgreesWithReadFormSpec.pre enc Tryd.prog Tryd.f3 Rows.fnOpStringAgreesWithReadFormRow.domain false w args ∧ laidMet Tryd.prog Rows.fnOpStringAgreesWithReadFormRow.laid w) ∧ sizedMet enc Tryd.prog Tryd.f3 (OpenSpec.ofChange Rows.fnOpStringAgreesWithReadFormSpec) false w args)
      (Rows.fnOpStringAgreesWithReadFormSpec.post enc Tryd.prog Tryd.f3 false true false false) := by
  refine returnsInHanded_of_change_and (C := Tryd.checked) (X := fun w _ => laidMet Tryd.prog Rows.fnOpStringAgreesWithReadFormRow.laid w) (fun _ _ _ hh h => h.of_heap hh) own started (by kernel_rfl) Tryd.func3
    (ChangeSpec.witness_at (enc := enc) (C := Tryd.checked) (os := os) (X := fun w _ => laidMet Tryd.prog Rows.fnOpStringAgreesWithReadFormRow.laid w) false
      { World.holding Tryd.prog os ⟨#[], #[], []⟩ with heap := laidHeap (World.holding Tryd.prog os ⟨#[], #[], []⟩).heap }
      #[.int .u8 0, .int .i64 0, .string ByteArray.empty, .string ByteArray.empty, .int .i64 0, .bool false] 8 rfl (by kernel_rfl) (by kernel_rfl) (by kernel_rfl) (by kernel_rfl) (by kernel_rfl)
      (laidMet_of_run' 8 (by kernel_rfl) (by kernel_rfl))) ?_
  intro W base args ds gs before hval0 hW _ _ hL _
  have hval : ∀ (j : Nat) t v, Tryd.f3.params[j]? = some t → args[j]? = some v → Value.okWide Tryd.prog W .any base t v := hval0
  have hW' := hW
  obtain ⟨p, q, hA0, hV, rfl, hfz, hnd⟩ := hW
  have hA : DataW.TrodAll enc Tryd.prog W 0 (fun _ => true) true Tryd.f3.params.toList args.toList ds p := hA0
  rw [Tryd.params3] at hA hval
  obtain ⟨v0, vs0, d0, ds0, p0, q0, hargs, rfl, rfl, h0, r0⟩ := trodAll_cons hA
  obtain ⟨v1, vs1, d1, ds1, p1, q1, rfl, rfl, rfl, h1, r1⟩ := trodAll_cons r0
  obtain ⟨v2, vs2, d2, ds2, p2, q2, rfl, rfl, rfl, h2, r2⟩ := trodAll_cons r1
  obtain ⟨v3, vs3, d3, ds3, p3, q3, rfl, rfl, rfl, h3, r3⟩ := trodAll_cons r2
  obtain ⟨v4, vs4, d4, ds4, p4, q4, rfl, rfl, rfl, h4, r4⟩ := trodAll_cons r3
  obtain ⟨v5, vs5, d5, ds5, p5, q5, rfl, rfl, rfl, h5, r5⟩ := trodAll_cons r4
  obtain ⟨rfl, rfl, rfl⟩ := trodAll_nil r5
  obtain rfl : args = #[v0, v1, v2, v3, v4, v5] := by cases args; simp_all
  obtain ⟨rfl, rfl⟩ := trodVars_none hV
  obtain ⟨a0, rfl, rfl, rfl, w0⟩ := open_int Tryd.underlying5 (hval 0 5 v0 rfl rfl) h0
  obtain ⟨a1, rfl, rfl, rfl, w1⟩ := open_int Tryd.underlying3 (hval 1 3 v1 rfl rfl) h1
  obtain ⟨a2, rfl, rfl, rfl, w2⟩ := open_string Tryd.underlying9 (hval 2 9 v2 rfl rfl) h2
  obtain ⟨a3, rfl, rfl, rfl, w3⟩ := open_string Tryd.underlying9 (hval 3 9 v3 rfl rfl) h3
  obtain ⟨a4, rfl, rfl, rfl, w4⟩ := open_int Tryd.underlying2 (hval 4 2 v4 rfl rfl) h4
  obtain ⟨a5, rfl, rfl, rfl⟩ := open_bool Tryd.underlying4 (hval 5 4 v5 rfl rfl) h5
  clear hA0 hval0
  simp only [List.append_nil] at hW'
  refine (walk a0 a1 a4 a2 a3 a5 W w0 w1 w2 w3 w4 (tab_of_laid hL)).mono fun e W' ⟨he, hg⟩ => ?_
  subst he
  exact ⟨_, rfl, _, _, _, [], [], [], hW', trodAll_mk1 (shut_bool Tryd.underlying4 _), (trodAll_cons_mk (shut_int Tryd.underlying5 w0) (trodAll_cons_mk (shut_int Tryd.underlying3 w1) (trodAll_cons_mk (shut_string Tryd.underlying9 w2) (trodAll_cons_mk (shut_string Tryd.underlying9 w3) (trodAll_cons_mk (shut_int Tryd.underlying2 w4) (trodAll_cons_mk (shut_bool Tryd.underlying4 a5) trodAll_mk0)))))), rfl, hg.frame _, fun h => by cases h⟩

theorem over : Rows.FnOpStringAgreesWithReadFormSaid :=
  OpenClaim.holds_of_wide 3 Tryd.f3 rfl rfl rfl rfl rfl rfl rfl ⟨rfl, rfl, rfl, rfl, rfl⟩ rfl rfl rfl rfl rfl (by kernel_rfl) Tryd.func3 (by kernel_rfl)
    (of_decide_eq_true (by kernel_rfl)) (by unfold Func.isWrapper; first | (rw [if_pos (by decide +kernel)]; kernel_rfl) | (rw [if_neg (by decide +kernel)]; exact ⟨rfl, rfl⟩))
    (fun os started H enc _ => lifted os started H enc)

theorem params_plain (j : Nat) (t : TypeId) (h : Tryd.f3.params[j]? = some t) : Tryd.prog.wantsStandIn t = false := by
  rw [Tryd.params3] at h
  rcases j with _ | _ | _ | _ | _ | _ | j
  · obtain rfl : t = 5 := by simpa using h.symm
    kernel_rfl
  · obtain rfl : t = 3 := by simpa using h.symm
    kernel_rfl
  · obtain rfl : t = 9 := by simpa using h.symm
    kernel_rfl
  · obtain rfl : t = 9 := by simpa using h.symm
    kernel_rfl
  · obtain rfl : t = 2 := by simpa using h.symm
    kernel_rfl
  · obtain rfl : t = 4 := by simpa using h.symm
    kernel_rfl
  · simp at h

/-- THE STATEMENT: the tied card. -/
theorem proved : Rows.FnOpStringAgreesWithReadFormCardSaid :=
  Claim7.holds_tied_plain_at .later [] [.data, .data, .data] true Rows.fnOpStringAgreesWithReadFormCard.stood.harness false
    over (fun _ h => by cases h) (by kernel_rfl) (fun _ h => by cases h) fnOpStringAgreesWithReadForm_row_tie rfl ⟨rfl, rfl⟩ (by kernel_rfl) rfl
    (fun f fn hf hfn => by
      obtain rfl : f = 3 := Option.some.inj ((show Tryd.prog.funcNamed Rows.fnOpStringAgreesWithReadFormRow.func = some 3 by kernel_rfl).symm.trans hf) |>.symm
      obtain rfl : fn = Tryd.f3 := (Option.some.inj (Tryd.func3.symm.trans hfn)).symm
      exact ⟨by kernel_rfl, fun j t ht => params_plain j t ht⟩)
    (by kernel_rfl)
end Go.Proofs.Qxb6627473aDoor.fnOpStringAgreesWithReadForm
