/-
  THE PROOF OF 'Rows.FnDigitsOneByteAnyPlaceSaid': the kit's shell for this function, its walk filled in.
-/
import Derived.Test.Qxb6627425aRows
import Derived.WalkKit
import Derived.ProofKit
import Derived.OpenShut
import Derived.ShutString
import Derived.Below
import Derived.Test.Qxb6627425aOneWalk
namespace Go.Proofs.Qxb6627425a.fnDigitsOneByteAnyPlace
open Go.ChangeShapes Go.WideShapes Go.ChangeAt Go.RowKit
open Go.ChangeMaps (open_string shut_string)
set_option linter.unusedVariables false      -- a walk need not use every 'w<i>' (that an integer argument fits its kind)

theorem own : ownKnob Try.prog.godebug = none := by kernel_rfl

/-! ### STEP 1: THE WALK: the Go text returns true. 'Grown w w'': the world has at most new blocks (Derived/RowKit3.lean). Part the cases AHEAD of 'go_enter' where a test parts the walk; take each callee by a contract of your own. -/
theorem main4 (s : ByteArray) (p : Nat) (c : Int) (w : World) (hs : s.size ≤ 1048576) (hp : p ≤ s.size) (h0 : 0 ≤ c) (h1 : c ≤ 255) :
    Calls Try.prog 4 #[.string s, .int .i64 p, .int .u8 c] w fun e w' => e = .returned (.bool true) ∧ Below w.heap.size w w' := by
  have hlen := ins_len s p c hp
  have z1 : (strOfNums [c]).size = 1 := by rw [strOfNums_size]; rfl
  have z2 : (strOfNums (insAt s p c)).size = s.size + 1 := by rw [strOfNums_size, hlen]
  refine core4 s (strOfNums [c]) (strOfNums (insAt s p c)) (insAt s p c) p c _ _ _ w hs hp h0 h1 hlen (ins_low s p c hp) (ins_mid s p c hp) (ins_high s p c hp) (hideIt rfl) (hideIt rfl)
    (hideIt (fun w => zz_any _ w (by omega))) (hideIt (fun w => zz_any _ w (by omega))) (hideIt (fun w => zz_any s w (by omega))) ?_
  rw [dig_one c h0 h1, dig_ins s p c h0 h1, isEmpty_size]
  by_cases k1 : 48 ≤ c
  · by_cases k2 : c ≤ 57
    · have hd : dI c = true := by simp [dI, k1, k2]
      by_cases hz : s.size = 0
      · exact .inl ⟨k1, k2, hd, by rw [hd, dig_empty s hz]; rfl, decide_eq_true hz⟩
      · exact .inr (.inl ⟨k1, k2, hd, by rw [hd, dig_full s hz]; rfl, decide_eq_false hz⟩)
    · have hd : dI c = false := by simp [dI, k2]
      exact .inr (.inr (.inr ⟨by omega, k1, hd, by rw [hd]; rfl⟩))
  · have hd : dI c = false := by simp [dI, k1]
    exact .inr (.inr (.inl ⟨by omega, hd, by rw [hd]; rfl⟩))

theorem walk (a0 : ByteArray) (a1 : Int) (a2 : Int) (w0 : a0.size ≤ maxLen) (w1 : (Lit.int .i64 a1).wf = true) (w2 : (Lit.int .u8 a2).wf = true) (w : World) :
    Calls Try.prog 4 #[.string a0, .int .i64 a1, .int .u8 a2] w fun e w' => e = .returned (.bool true) ∧ Below w.heap.size w w' := by
  have hb1 := bounds_i64 w1
  have hb2 := bounds_u8 w2
  unfold maxLen at w0
  by_cases hs : a0.size ≤ 1048576
  · by_cases hn : a1 < 0
    · clear w1 w2
      go_enter Try.func4, Try.ntmps4
      go_wp2_with (go_at_call 8; refine (bytes8_any a0 a1 a2 _ (by omega)).mono ?_; rintro e w' ⟨bo, rfl, hbo, hw⟩; obtain rfl := hbo (by omega); obtain rfl := hw.symm)
      go_ret
      exact ⟨rfl, Below.refl _ _⟩
    · by_cases hg : (a0.size : Int) < a1
      · clear w1 w2
        go_enter Try.func4, Try.ntmps4
        go_wp2_with (go_at_call 8; refine (bytes8_any a0 a1 a2 _ (by omega)).mono ?_; rintro e w' ⟨bo, rfl, hbo, hw⟩; obtain rfl := hbo (by omega); obtain rfl := hw.symm)
        go_ret
        exact ⟨rfl, Below.refl _ _⟩
      · obtain ⟨p, rfl⟩ : ∃ p : Nat, a1 = p := ⟨a1.toNat, by omega⟩
        exact main4 a0 p a2 w hs (by omega) hb2.1 hb2.2
  · clear w1 w2
    go_enter Try.func4, Try.ntmps4
    go_wp2_with (go_at_call 8; refine (bytes8_any a0 a1 a2 _ (by omega)).mono ?_; rintro e w' ⟨bo, rfl, hbo, hw⟩; obtain rfl := hw.symm; clear hbo)
    all_goals go_ret
    all_goals exact ⟨rfl, Below.refl _ _⟩

/-! ### THE ROW's STEP: WRITTEN OUT: LEAVE IT -/
set_option maxRecDepth 100000 in
theorem lifted (os : Os) (started : os.Started) (H : Type) (enc : TypeId × Value → H) :
    ReturnsInHanded {} Try.checked os 4 .any (Rows.fnDigitsOneByteAnyPlaceSpec.pre6 enc Try.prog Try.f4 Rows.fnDigitsOneByteAnyPlaceRow.domain false) (Rows.fnDigitsOneByteAnyPlaceSpec.post enc Try.prog Try.f4 false true false false) := by
  refine returnsInHanded_of_change (C := Try.checked) own started (by kernel_rfl) Try.func4
    (ChangeSpec.witness6 (enc := enc) (C := Try.checked) false ⟨#[], #[.string ByteArray.empty, .int .i64 0, .int .u8 0], []⟩ 8 (by kernel_rfl) (by kernel_rfl) (by kernel_rfl) (by kernel_rfl)) ?_
  intro W base args ds gs before hval0 hW hcnd _
  have hval : ∀ (j : Nat) t v, Try.f4.params[j]? = some t → args[j]? = some v → Value.okWide Try.prog W .any base t v := hval0
  have hW' := hW
  obtain ⟨p, q, hA0, hV, rfl, hfz, hnd⟩ := hW
  have hA : DataW.TrodAll enc Try.prog W 0 (fun _ => true) true Try.f4.params.toList args.toList ds p := hA0
  rw [Try.params4] at hA hval
  obtain ⟨v0, vs0, d0, ds0, p0, q0, hargs, rfl, rfl, h0, r0⟩ := trodAll_cons hA
  obtain ⟨v1, vs1, d1, ds1, p1, q1, rfl, rfl, rfl, h1, r1⟩ := trodAll_cons r0
  obtain ⟨v2, vs2, d2, ds2, p2, q2, rfl, rfl, rfl, h2, r2⟩ := trodAll_cons r1
  obtain ⟨rfl, rfl, rfl⟩ := trodAll_nil r2
  obtain rfl : args = #[v0, v1, v2] := by cases args; simp_all
  obtain ⟨rfl, rfl⟩ := trodVars_none hV
  obtain ⟨a0, rfl, rfl, rfl, w0⟩ := open_string Try.underlying9 (hval 0 9 v0 rfl rfl) h0
  obtain ⟨a1, rfl, rfl, rfl, w1⟩ := open_int Try.underlying3 (hval 1 3 v1 rfl rfl) h1
  obtain ⟨a2, rfl, rfl, rfl, w2⟩ := open_int Try.underlying5 (hval 2 5 v2 rfl rfl) h2
  clear hA0 hval0
  simp only [List.append_nil] at hW'
  refine (walk a0 a1 a2 w0 w1 w2 W).mono fun e W' ⟨he, hg⟩ => ?_
  subst he
  exact ⟨_, rfl, _, _, _, [], [], [], hW', trodAll_mk1 (shut_bool Try.underlying4 _), (trodAll_cons_mk (shut_string Try.underlying9 w0) (trodAll_cons_mk (shut_int Try.underlying3 w1) (trodAll_cons_mk (shut_int Try.underlying5 w2) trodAll_mk0))), rfl, hg.frame _, fun h => by cases h⟩

theorem over : Rows.fnDigitsOneByteAnyPlaceRow.holds Try.pinned (OpenSpec.ofChange Rows.fnDigitsOneByteAnyPlaceSpec) :=
  OpenClaim.holds_of_wide 4 Try.f4 rfl rfl rfl rfl rfl rfl rfl ⟨rfl, rfl, rfl, rfl, rfl⟩ rfl rfl rfl rfl rfl (by kernel_rfl) Try.func4 (by kernel_rfl)
    (of_decide_eq_true (by kernel_rfl)) (by unfold Func.isWrapper; first | (rw [if_pos (by decide +kernel)]; kernel_rfl) | (rw [if_neg (by decide +kernel)]; exact ⟨rfl, rfl⟩))
    (fun os started H enc _ => lifted os started H enc)

/-- ████ THE STATEMENT ████ -/
theorem proved : Rows.FnDigitsOneByteAnyPlaceSaid :=
  over
end Go.Proofs.Qxb6627425a.fnDigitsOneByteAnyPlace
