/-
  FnOpStringIsInjectiveOnMeaning: every road; the row; the tied card.
-/
import Derived.Test.Qxb6627473aDoorLift
import Derived.Test.Qxb6627473aDoorInjRoads
import Derived.Test.Qxb6627473aDoorTie
import Derived.Test.Qxb6627473aDoorCards
import Derived.SevenTiedAt
namespace Go.Proofs.Qxb6627473aDoor.fnOpStringIsInjectiveOnMeaning
open Go.ChangeShapes Go.WideShapes Go.ChangeAt Go.RowKit
open Go.ChangeMaps (open_string shut_string)
set_option linter.unusedVariables false

set_option maxRecDepth 100000 in
theorem lifted (os : Os) (started : os.Started) (H : Type) (enc : TypeId × Value → H) :
    ReturnsInHanded {} Tryd.checked os 4 .any (fun w args => (Rows.fnOpStringIsInjectiveOnMeaningSpec.pre enc Tryd.prog Tryd.f4 Rows.fnOpStringIsInjectiveOnMeaningRow.domain false w args ∧ laidMet Tryd.prog Rows.fnOpStringIsInjectiveOnMeaningRow.laid w) ∧ sizedMet enc Tryd.prog Tryd.f4 (OpenSpec.ofChange Rows.fnOpStringIsInjectiveOnMeaningSpec) false w args)
      (Rows.fnOpStringIsInjectiveOnMeaningSpec.post enc Tryd.prog Tryd.f4 false true false false) := by
  refine returnsInHanded_of_change_and (C := Tryd.checked) (X := fun w _ => laidMet Tryd.prog Rows.fnOpStringIsInjectiveOnMeaningRow.laid w) (fun _ _ _ hh h => h.of_heap hh) own started (by kernel_rfl) Tryd.func4
    (ChangeSpec.witness_at (enc := enc) (C := Tryd.checked) (os := os) (X := fun w _ => laidMet Tryd.prog Rows.fnOpStringIsInjectiveOnMeaningRow.laid w) false
      { World.holding Tryd.prog os ⟨#[], #[], []⟩ with heap := laidHeap (World.holding Tryd.prog os ⟨#[], #[], []⟩).heap }
      #[.int .u8 0, .int .i64 0, .string ByteArray.empty, .string ByteArray.empty, .int .i64 0, .bool false, .int .u8 0, .int .i64 0, .string ByteArray.empty, .string ByteArray.empty, .int .i64 0, .bool false] 8 rfl (by kernel_rfl) (by kernel_rfl) (by kernel_rfl) (by kernel_rfl) (by kernel_rfl)
      (laidMet_of_run' 8 (by kernel_rfl) (by kernel_rfl))) ?_
  intro W base args ds gs before hval0 hW _ _ hL _
  have hval : ∀ (j : Nat) t v, Tryd.f4.params[j]? = some t → args[j]? = some v → Value.okWide Tryd.prog W .any base t v := hval0
  have hW' := hW
  obtain ⟨p, q, hA0, hV, rfl, hfz, hnd⟩ := hW
  have hA : DataW.TrodAll enc Tryd.prog W 0 (fun _ => true) true Tryd.f4.params.toList args.toList ds p := hA0
  rw [Tryd.params4] at hA hval
  obtain ⟨v0, vs0, d0, ds0, p0, q0, hargs, rfl, rfl, h0, r0⟩ := trodAll_cons hA
  obtain ⟨v1, vs1, d1, ds1, p1, q1, rfl, rfl, rfl, h1, r1⟩ := trodAll_cons r0
  obtain ⟨v2, vs2, d2, ds2, p2, q2, rfl, rfl, rfl, h2, r2⟩ := trodAll_cons r1
  obtain ⟨v3, vs3, d3, ds3, p3, q3, rfl, rfl, rfl, h3, r3⟩ := trodAll_cons r2
  obtain ⟨v4, vs4, d4, ds4, p4, q4, rfl, rfl, rfl, h4, r4⟩ := trodAll_cons r3
  obtain ⟨v5, vs5, d5, ds5, p5, q5, rfl, rfl, rfl, h5, r5⟩ := trodAll_cons r4
  obtain ⟨v6, vs6, d6, ds6, p6, q6, rfl, rfl, rfl, h6, r6⟩ := trodAll_cons r5
  obtain ⟨v7, vs7, d7, ds7, p7, q7, rfl, rfl, rfl, h7, r7⟩ := trodAll_cons r6
  obtain ⟨v8, vs8, d8, ds8, p8, q8, rfl, rfl, rfl, h8, r8⟩ := trodAll_cons r7
  obtain ⟨v9, vs9, d9, ds9, p9, q9, rfl, rfl, rfl, h9, r9⟩ := trodAll_cons r8
  obtain ⟨v10, vs10, d10, ds10, p10, q10, rfl, rfl, rfl, h10, r10⟩ := trodAll_cons r9
  obtain ⟨v11, vs11, d11, ds11, p11, q11, rfl, rfl, rfl, h11, r11⟩ := trodAll_cons r10
  obtain ⟨rfl, rfl, rfl⟩ := trodAll_nil r11
  obtain rfl : args = #[v0, v1, v2, v3, v4, v5, v6, v7, v8, v9, v10, v11] := by cases args; simp_all
  obtain ⟨rfl, rfl⟩ := trodVars_none hV
  obtain ⟨a0, rfl, rfl, rfl, w0⟩ := open_int Tryd.underlying5 (hval 0 5 v0 rfl rfl) h0
  obtain ⟨a1, rfl, rfl, rfl, w1⟩ := open_int Tryd.underlying3 (hval 1 3 v1 rfl rfl) h1
  obtain ⟨a2, rfl, rfl, rfl, w2⟩ := open_string Tryd.underlying9 (hval 2 9 v2 rfl rfl) h2
  obtain ⟨a3, rfl, rfl, rfl, w3⟩ := open_string Tryd.underlying9 (hval 3 9 v3 rfl rfl) h3
  obtain ⟨a4, rfl, rfl, rfl, w4⟩ := open_int Tryd.underlying2 (hval 4 2 v4 rfl rfl) h4
  obtain ⟨a5, rfl, rfl, rfl⟩ := open_bool Tryd.underlying4 (hval 5 4 v5 rfl rfl) h5
  obtain ⟨a6, rfl, rfl, rfl, w6⟩ := open_int Tryd.underlying5 (hval 6 5 v6 rfl rfl) h6
  obtain ⟨a7, rfl, rfl, rfl, w7⟩ := open_int Tryd.underlying3 (hval 7 3 v7 rfl rfl) h7
  obtain ⟨a8, rfl, rfl, rfl, w8⟩ := open_string Tryd.underlying9 (hval 8 9 v8 rfl rfl) h8
  obtain ⟨a9, rfl, rfl, rfl, w9⟩ := open_string Tryd.underlying9 (hval 9 9 v9 rfl rfl) h9
  obtain ⟨a10, rfl, rfl, rfl, w10⟩ := open_int Tryd.underlying2 (hval 10 2 v10 rfl rfl) h10
  obtain ⟨a11, rfl, rfl, rfl⟩ := open_bool Tryd.underlying4 (hval 11 4 v11 rfl rfl) h11
  clear hA0 hval0
  simp only [List.append_nil] at hW'
  refine (inj_any a0 a1 a4 a6 a7 a10 a2 a3 a8 a9 a5 a11 W w0 w1 w2 w3 w4 w6 w7 w8 w9 w10 (tab_of_laid hL)).mono fun e W' ⟨he, hg⟩ => ?_
  subst he
  exact ⟨_, rfl, _, _, _, [], [], [], hW', trodAll_mk1 (shut_bool Tryd.underlying4 _), (trodAll_cons_mk (shut_int Tryd.underlying5 w0) (trodAll_cons_mk (shut_int Tryd.underlying3 w1) (trodAll_cons_mk (shut_string Tryd.underlying9 w2) (trodAll_cons_mk (shut_string Tryd.underlying9 w3) (trodAll_cons_mk (shut_int Tryd.underlying2 w4) (trodAll_cons_mk (shut_bool Tryd.underlying4 a5) (trodAll_cons_mk (shut_int Tryd.underlying5 w6) (trodAll_cons_mk (shut_int Tryd.underlying3 w7) (trodAll_cons_mk (shut_string Tryd.underlying9 w8) (trodAll_cons_mk (shut_string Tryd.underlying9 w9) (trodAll_cons_mk (shut_int Tryd.underlying2 w10) (trodAll_cons_mk (shut_bool Tryd.underlying4 a11) trodAll_mk0)))))))))))), rfl, hg.frame _, fun h => by cases h⟩

theorem over : Rows.FnOpStringIsInjectiveOnMeaningSaid :=
  OpenClaim.holds_of_wide 4 Tryd.f4 rfl rfl rfl rfl rfl rfl rfl ⟨rfl, rfl, rfl, rfl, rfl⟩ rfl rfl rfl rfl rfl (by kernel_rfl) Tryd.func4 (by kernel_rfl)
    (of_decide_eq_true (by kernel_rfl)) (by unfold Func.isWrapper; first | (rw [if_pos (by decide +kernel)]; kernel_rfl) | (rw [if_neg (by decide +kernel)]; exact ⟨rfl, rfl⟩))
    (fun os started H enc _ => lifted os started H enc)

theorem params_plain (j : Nat) (t : TypeId) (h : Tryd.f4.params[j]? = some t) : Tryd.prog.wantsStandIn t = false := by
  rw [Tryd.params4] at h
  rcases j with _ | _ | _ | _ | _ | _ | _ | _ | _ | _ | _ | _ | j
  · obtain rfl : t = 5 := by simpa using h.symm
    kernel_rfl
  · obtain rfl : t = 3 := by simpa using h.symm
    kernel_rfl
  · obtain rfl : t = 9 := by simpa using h.symm
    kernel_rfl
  · obtain rfl : t = 9 := by simpa using h.symm
    kernel_rfl
  · obtain rfl : t = 2 := by simpa using h.symm
    kernel_rfl
  · obtain rfl : t = 4 := by simpa using h.symm
    kernel_rfl
  · obtain rfl : t = 5 := by simpa using h.symm
    kernel_rfl
  · obtain rfl : t = 3 := by simpa using h.symm
    kernel_rfl
  · obtain rfl : t = 9 := by simpa using h.symm
    kernel_rfl
  · obtain rfl : t = 9 := by simpa using h.symm
    kernel_rfl
  · obtain rfl : t = 2 := by simpa using h.symm
    kernel_rfl
  · obtain rfl : t = 4 := by simpa using h.symm
    kernel_rfl
  · simp at h

/-- THE STATEMENT: the tied card. -/
theorem proved : Rows.FnOpStringIsInjectiveOnMeaningCardSaid :=
  Claim7.holds_tied_plain_at .later [] [.data, .data, .data] true Rows.fnOpStringIsInjectiveOnMeaningCard.stood.harness false
    over (fun _ h => by cases h) (by kernel_rfl) (fun _ h => by cases h) fnOpStringIsInjectiveOnMeaning_row_tie rfl ⟨rfl, rfl⟩ (by kernel_rfl) rfl
    (fun f fn hf hfn => by
      obtain rfl : f = 4 := Option.some.inj ((show Tryd.prog.funcNamed Rows.fnOpStringIsInjectiveOnMeaningRow.func = some 4 by kernel_rfl).symm.trans hf) |>.symm
      obtain rfl : fn = Tryd.f4 := (Option.some.inj (Tryd.func4.symm.trans hfn)).symm
      exact ⟨by kernel_rfl, fun j t ht => params_plain j t ht⟩)
    (by kernel_rfl)
end Go.Proofs.Qxb6627473aDoor.fnOpStringIsInjectiveOnMeaning
