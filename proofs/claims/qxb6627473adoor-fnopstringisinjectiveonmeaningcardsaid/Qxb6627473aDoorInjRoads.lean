/-
  FnOpStringIsInjectiveOnMeaning: the roads on which the law asks nothing; and all of them together.
-/
import Derived.Test.Qxb6627473aDoorInj
import Derived.OpenShut
namespace Go.Proofs.Qxb6627473aDoor
open Go.RowKit
open Go.Lib (decDigits itoa)
set_option linter.unusedVariables false

set_option maxHeartbeats 1600000 in
/-- A text is too long. -/
theorem inj_long (ak at_ av bk bt bv : Int) (akey ato bkey bto : ByteArray) (anv bnv : Bool) (w : World)
    (h0 : akey.size ≤ 9223372036854775807) (h1 : ato.size ≤ 9223372036854775807) (h2 : bkey.size ≤ 9223372036854775807) (h3 : bto.size ≤ 9223372036854775807)
    (hl : 262144 < akey.size ∨ (akey.size ≤ 262144 ∧ 262144 < ato.size) ∨ (akey.size ≤ 262144 ∧ ato.size ≤ 262144 ∧ 262144 < bkey.size) ∨ (akey.size ≤ 262144 ∧ ato.size ≤ 262144 ∧ bkey.size ≤ 262144 ∧ 262144 < bto.size)) :
    Calls Tryd.prog 4 #[.int .u8 ak, .int .i64 at_, .string akey, .string ato, .int .i64 av, .bool anv, .int .u8 bk, .int .i64 bt, .string bkey, .string bto, .int .i64 bv, .bool bnv] w fun e w' => e = .returned (.bool true) ∧ Below w.heap.size w w' := by
  rcases hl with a | ⟨a, b⟩ | ⟨a, b, c⟩ | ⟨a, b, c, d⟩
  all_goals
    go_enter Tryd.func4, Tryd.ntmps4
    go_wp2_with (go_at_call 8; refine (bytes8_any ak at_ av bk bt bv akey ato bkey bto anv bnv _ (by omega) (by omega) (by omega) (by omega)).mono ?_; rintro e w' ⟨bo, rfl, hbo, hw⟩; obtain rfl := hw.symm; clear hbo hw)
    all_goals go_ret
    all_goals exact ⟨rfl, Below.refl _ _⟩

set_option maxHeartbeats 1600000 in
/-- A kind has no letter. -/
theorem inj_kind (ak at_ av bk bt bv : Int) (akey ato bkey bto : ByteArray) (anv bnv : Bool) (w : World)
    (h0 : akey.size ≤ 262144) (h1 : ato.size ≤ 262144) (h2 : bkey.size ≤ 262144) (h3 : bto.size ≤ 262144) (hl : 6 < ak ∨ (ak ≤ 6 ∧ 6 < bk)) :
    Calls Tryd.prog 4 #[.int .u8 ak, .int .i64 at_, .string akey, .string ato, .int .i64 av, .bool anv, .int .u8 bk, .int .i64 bt, .string bkey, .string bto, .int .i64 bv, .bool bnv] w fun e w' => e = .returned (.bool true) ∧ Below w.heap.size w w' := by
  rcases hl with a | ⟨a, b⟩
  all_goals
    go_enter Tryd.func4, Tryd.ntmps4
    go_wp2_with (go_at_call 8; refine (bytes8_any ak at_ av bk bt bv akey ato bkey bto anv bnv _ (by omega) (by omega) (by omega) (by omega)).mono ?_; rintro e w' ⟨bo, rfl, hbo, hw⟩; obtain rfl := hbo (by omega) (by omega) (by omega) (by omega); obtain rfl := hw.symm; clear hbo hw)
    go_ret
    exact ⟨rfl, Below.refl _ _⟩

set_option maxHeartbeats 1600000 in
/-- The first key holds a comma. -/
theorem inj_comma1 (ak at_ av bk bt bv : Int) (akey ato bkey bto : ByteArray) (anv bnv : Bool) (w : World)
    (h0 : akey.size ≤ 262144) (h1 : ato.size ≤ 262144) (h2 : bkey.size ≤ 262144) (h3 : bto.size ≤ 262144) (ha : ak ≤ 6) (hb : bk ≤ 6)
    (ca : ((ak == 2) = true) ∨ ((ak == 2) = false ∧ (ak == 6) = true))
    (HKA : Hid (∀ W, Calls Tryd.prog 9 #[.string akey] W fun e w' => e = .returned (.bool true) ∧ w' = W)) :
    Calls Tryd.prog 4 #[.int .u8 ak, .int .i64 at_, .string akey, .string ato, .int .i64 av, .bool anv, .int .u8 bk, .int .i64 bt, .string bkey, .string bto, .int .i64 bv, .bool bnv] w fun e w' => e = .returned (.bool true) ∧ Below w.heap.size w w' := by
  rcases ca with a | ⟨a, b⟩
  all_goals
    go_enter Tryd.func4, Tryd.ntmps4
    go_wp2_with (first
      | (go_at_call 8; refine (bytes8_any ak at_ av bk bt bv akey ato bkey bto anv bnv _ (by omega) (by omega) (by omega) (by omega)).mono ?_; rintro e w' ⟨bo, rfl, hbo, hw⟩; obtain rfl := hbo (by omega) (by omega) (by omega) (by omega); obtain rfl := hw.symm; clear hbo hw)
      | (go_at_call_of 9 akey; refine Calls.mono (HKA.out _) ?_; rintro e w' ⟨rfl, hw⟩; obtain rfl := hw.symm))
    go_ret
    exact ⟨rfl, Below.refl _ _⟩

set_option maxHeartbeats 1600000 in
/-- The second key holds a comma. -/
theorem inj_comma2 (ak at_ av bk bt bv : Int) (akey ato bkey bto : ByteArray) (anv bnv : Bool) (w : World)
    (h0 : akey.size ≤ 262144) (h1 : ato.size ≤ 262144) (h2 : bkey.size ≤ 262144) (h3 : bto.size ≤ 262144) (ha : ak ≤ 6) (hb : bk ≤ 6)
    (ca : ((ak == 2) = true) ∨ ((ak == 2) = false ∧ (ak == 6) = true) ∨ ((ak == 2) = false ∧ (ak == 6) = false))
    (cb : ((bk == 2) = true) ∨ ((bk == 2) = false ∧ (bk == 6) = true))
    (HKA : Hid ((ak == 2) = true ∨ (ak == 6) = true → ∀ W, Calls Tryd.prog 9 #[.string akey] W fun e w' => e = .returned (.bool false) ∧ w' = W))
    (HKB : Hid (∀ W, Calls Tryd.prog 9 #[.string bkey] W fun e w' => e = .returned (.bool true) ∧ w' = W)) :
    Calls Tryd.prog 4 #[.int .u8 ak, .int .i64 at_, .string akey, .string ato, .int .i64 av, .bool anv, .int .u8 bk, .int .i64 bt, .string bkey, .string bto, .int .i64 bv, .bool bnv] w fun e w' => e = .returned (.bool true) ∧ Below w.heap.size w w' := by
  rcases ca with a1 | ⟨a1, a2⟩ | ⟨a1, a2⟩ <;> rcases cb with b1 | ⟨b1, b2⟩
  all_goals
    try (have HA1 := hideIt (HKA.out (.inl a1)))
    try (have HA1 := hideIt (HKA.out (.inr a2)))
    clear HKA
    go_enter Tryd.func4, Tryd.ntmps4
    go_wp2_with (first
      | (go_at_call 8; refine (bytes8_any ak at_ av bk bt bv akey ato bkey bto anv bnv _ (by omega) (by omega) (by omega) (by omega)).mono ?_; rintro e w' ⟨bo, rfl, hbo, hw⟩; obtain rfl := hbo (by omega) (by omega) (by omega) (by omega); obtain rfl := hw.symm; clear hbo hw)
      | (go_at_call_of 9 akey; refine Calls.mono (HA1.out _) ?_; rintro e w' ⟨rfl, hw⟩; obtain rfl := hw.symm)
      | (go_at_call_of 9 bkey; refine Calls.mono (HKB.out _) ?_; rintro e w' ⟨rfl, hw⟩; obtain rfl := hw.symm))
    go_ret
    exact ⟨rfl, Below.refl _ _⟩

theorem kind_cases (k : Int) : ((k == 2) = true) ∨ ((k == 2) = false ∧ (k == 6) = true) ∨ ((k == 2) = false ∧ (k == 6) = false) := by
  cases k == 2
  · cases k == 6
    · exact .inr (.inr ⟨rfl, rfl⟩)
    · exact .inr (.inl ⟨rfl, rfl⟩)
  · exact .inl rfl

theorem kind_asks {k : Int} (h : (k == 2) = true ∨ (k == 6) = true) : ((k == 2) = true) ∨ ((k == 2) = false ∧ (k == 6) = true) := by
  rcases kind_cases k with c | c | c
  · exact .inl c
  · exact .inr c
  · rcases h with h | h
    · rw [c.1] at h; cases h
    · rw [c.2] at h; cases h

theorem asks_of {k : Int} (h : k = 2 ∨ k = 6) : (k == 2) = true ∨ (k == 6) = true := by
  rcases h with h | h
  · exact .inl (beq_iff_eq.2 h)
  · exact .inr (beq_iff_eq.2 h)

/-- EVERY ROAD. -/
theorem inj_any (ak at_ av bk bt bv : Int) (akey ato bkey bto : ByteArray) (anv bnv : Bool) (w : World)
    (w0 : (Lit.int .u8 ak).wf = true) (w1 : (Lit.int .i64 at_).wf = true) (w2 : akey.size ≤ maxLen) (w3 : ato.size ≤ maxLen) (w4 : (Lit.int .i64 av).wf = true)
    (w6 : (Lit.int .u8 bk).wf = true) (w7 : (Lit.int .i64 bt).wf = true) (w8 : bkey.size ≤ maxLen) (w9 : bto.size ≤ maxLen) (w10 : (Lit.int .i64 bv).wf = true) (ht : Tab w) :
    Calls Tryd.prog 4 #[.int .u8 ak, .int .i64 at_, .string akey, .string ato, .int .i64 av, .bool anv, .int .u8 bk, .int .i64 bt, .string bkey, .string bto, .int .i64 bv, .bool bnv] w fun e w' => e = .returned (.bool true) ∧ Below w.heap.size w w' := by
  have b0 := bounds_u8 w0
  have b1 := bounds_i64 w1
  have b4 := bounds_i64 w4
  have b6 := bounds_u8 w6
  have b7 := bounds_i64 w7
  have b10 := bounds_i64 w10
  unfold maxLen at w2 w3 w8 w9
  by_cases hl : akey.size ≤ 262144 ∧ ato.size ≤ 262144 ∧ bkey.size ≤ 262144 ∧ bto.size ≤ 262144
  case neg => exact inj_long ak at_ av bk bt bv akey ato bkey bto anv bnv w w2 w3 w8 w9 (by omega)
  obtain ⟨l1, l2, l3, l4⟩ := hl
  by_cases hk : ak ≤ 6 ∧ bk ≤ 6
  case neg => exact inj_kind ak at_ av bk bt bv akey ato bkey bto anv bnv w l1 l2 l3 l4 (by omega)
  obtain ⟨ha, hb⟩ := hk
  by_cases c1 : ((ak == 2) = true ∨ (ak == 6) = true) ∧ hasComma akey
  · exact inj_comma1 ak at_ av bk bt bv akey ato bkey bto anv bnv w l1 l2 l3 l4 ha hb (kind_asks c1.1) (hideIt fun W => comma_yes w2 c1.2 W)
  have HKA := hideIt (show (ak == 2) = true ∨ (ak == 6) = true → ∀ W, Calls Tryd.prog 9 #[.string akey] W fun e w' => e = .returned (.bool false) ∧ w' = W from fun h W => comma_no w2 (fun hc => c1 ⟨h, hc⟩) W)
  by_cases c2 : ((bk == 2) = true ∨ (bk == 6) = true) ∧ hasComma bkey
  · exact inj_comma2 ak at_ av bk bt bv akey ato bkey bto anv bnv w l1 l2 l3 l4 ha hb (kind_cases ak) (kind_asks c2.1) HKA (hideIt fun W => comma_yes w8 c2.2 W)
  have HKB := hideIt (show (bk == 2) = true ∨ (bk == 6) = true → ∀ W, Calls Tryd.prog 9 #[.string bkey] W fun e w' => e = .returned (.bool false) ∧ w' = W from fun h W => comma_no w8 (fun hc => c2 ⟨h, hc⟩) W)
  have law := text_iff ⟨ak, at_, akey.data.toList, ato.data.toList, av, anv⟩ ⟨bk, bt, bkey.data.toList, bto.data.toList, bv, bnv⟩ b0.1 ha b6.1 hb
    (fun h hc => c1 ⟨asks_of h, hc⟩) (fun h hc => c2 ⟨asks_of h, hc⟩)
  exact inj_main ak at_ av bk bt bv akey ato bkey bto (bytes (text ⟨ak, at_, akey.data.toList, ato.data.toList, av, anv⟩)) (bytes (text ⟨bk, bt, bkey.data.toList, bto.data.toList, bv, bnv⟩)) anv bnv w _ l1 l2 l3 l4 b0.1 ha b6.1 hb ht
    (hideIt (by rw [bytes_list, bytes_list]; exact law)) (kind_cases ak) (kind_cases bk) HKA HKB
    (hideIt fun W h => string_any ak at_ av akey ato anv W b0.1 ha b1.1 b1.2 b4.1 b4.2 (by omega) (by omega) h)
    (hideIt fun W h => string_any bk bt bv bkey bto bnv W b6.1 hb b7.1 b7.2 b10.1 b10.2 (by omega) (by omega) h)
    (hideIt fun W => same_any ak at_ av bk bt bv akey ato bkey bto anv bnv W)
end Go.Proofs.Qxb6627473aDoor
