/-
  FnOpStringIsInjectiveOnMeaning: its roads.
-/
import Derived.Test.Qxb6627473aDoorSame
namespace Go.Proofs.Qxb6627473aDoor
open Go.RowKit
open Go.Lib (decDigits itoa)
set_option linter.unusedVariables false

theorem comma_no {s : ByteArray} (hs : s.size ≤ 9223372036854775807) (h : ¬ hasComma s) (w : World) : Calls Tryd.prog 9 #[.string s] w fun e w' => e = .returned (.bool false) ∧ w' = w :=
  (comma_any s w hs).mono fun e w' ⟨⟨bo, he, hb⟩, hw⟩ => ⟨by
    cases bo
    · exact he
    · exact absurd (hb.1 rfl) h, hw⟩
theorem comma_yes {s : ByteArray} (hs : s.size ≤ 9223372036854775807) (h : hasComma s) (w : World) : Calls Tryd.prog 9 #[.string s] w fun e w' => e = .returned (.bool true) ∧ w' = w :=
  (comma_any s w hs).mono fun e w' ⟨⟨bo, he, hb⟩, hw⟩ => ⟨by
    cases bo
    · exact absurd (hb.2 h) (by decide)
    · exact he, hw⟩

theorem two_cells {w W : World} {c d : Array Value} {t : TypeId} (hb : Below ((w.alloc (.cells c t)).alloc (.cells d t)).heap.size ((w.alloc (.cells c t)).alloc (.cells d t)) W) (o : Nat) (v : Value) (h : d[o]? = some v) : W.cell? ⟨w.heap.size + 1, o, none⟩ = some v := by
  rw [hb.cell (p := ⟨w.heap.size + 1, o, none⟩) (by simp)]
  simp [go_sem, h]

theorem fin_eq {SA SB : ByteArray} {P : Prop} {bo : Bool} (h : SA.data.toList = SB.data.toList ↔ P) (hb : bo = true ↔ P) : (SA.toList == SB.toList) = bo := by
  rw [Lib.toList_data, Lib.toList_data]
  cases bo
  · exact beq_eq_false_iff_ne.2 (fun e => by have := hb.2 (h.1 e); cases this)
  · exact beq_iff_eq.2 (h.2 (hb.1 rfl))

set_option maxHeartbeats 3200000 in
/-- THE MAIN ROAD: no key that is asked holds a comma. -/
theorem inj_main (ak at_ av bk bt bv : Int) (akey ato bkey bto SA SB : ByteArray) (anv bnv : Bool) (w : World) (P : Prop)
    (h0 : akey.size ≤ 262144) (h1 : ato.size ≤ 262144) (h2 : bkey.size ≤ 262144) (h3 : bto.size ≤ 262144) (ha0 : 0 ≤ ak) (ha : ak ≤ 6) (hb0 : 0 ≤ bk) (hb : bk ≤ 6) (ht : Tab w)
    (HP : Hid (SA.data.toList = SB.data.toList ↔ P))
    (ca : ((ak == 2) = true) ∨ ((ak == 2) = false ∧ (ak == 6) = true) ∨ ((ak == 2) = false ∧ (ak == 6) = false))
    (cb : ((bk == 2) = true) ∨ ((bk == 2) = false ∧ (bk == 6) = true) ∨ ((bk == 2) = false ∧ (bk == 6) = false))
    (HKA : Hid ((ak == 2) = true ∨ (ak == 6) = true → ∀ W, Calls Tryd.prog 9 #[.string akey] W fun e w' => e = .returned (.bool false) ∧ w' = W))
    (HKB : Hid ((bk == 2) = true ∨ (bk == 6) = true → ∀ W, Calls Tryd.prog 9 #[.string bkey] W fun e w' => e = .returned (.bool false) ∧ w' = W))
    (HCA : Hid (∀ W, Tab W → Calls Tryd.prog 6 #[.agg #[.int .u8 ak, .int .i64 at_, .string akey, .string ato, .int .i64 av, .bool anv]] W fun e w' => e = .returned (.string SA) ∧ Below W.heap.size W w'))
    (HCB : Hid (∀ W, Tab W → Calls Tryd.prog 6 #[.agg #[.int .u8 bk, .int .i64 bt, .string bkey, .string bto, .int .i64 bv, .bool bnv]] W fun e w' => e = .returned (.string SB) ∧ Below W.heap.size W w'))
    (HCS : Hid (∀ W, Calls Tryd.prog 10 #[.int .u8 ak, .int .i64 at_, .string akey, .string ato, .int .i64 av, .bool anv, .int .u8 bk, .int .i64 bt, .string bkey, .string bto, .int .i64 bv, .bool bnv] W fun e w' => Says P e ∧ w' = W)) :
    Calls Tryd.prog 4 #[.int .u8 ak, .int .i64 at_, .string akey, .string ato, .int .i64 av, .bool anv, .int .u8 bk, .int .i64 bt, .string bkey, .string bto, .int .i64 bv, .bool bnv] w fun e w' => e = .returned (.bool true) ∧ Below w.heap.size w w' := by
  have C0 := hideIt (Carry.start ht)
  clear ht
  rcases ca with a1 | ⟨a1, a2⟩ | ⟨a1, a2⟩ <;> rcases cb with b1 | ⟨b1, b2⟩ | ⟨b1, b2⟩
  all_goals
    have HA := hideIt (fun h => HKA.out h)
    have HB := hideIt (fun h => HKB.out h)
    clear HKA HKB
    try (have HA1 := hideIt (HA.out (.inl a1)))
    try (have HA1 := hideIt (HA.out (.inr a2)))
    try (have HB1 := hideIt (HB.out (.inl b1)))
    try (have HB1 := hideIt (HB.out (.inr b2)))
    clear HA HB
    go_enter Tryd.func4, Tryd.ntmps4
    go_wp2_with (first
      | (go_at_call 8; refine (bytes8_any ak at_ av bk bt bv akey ato bkey bto anv bnv _ (by omega) (by omega) (by omega) (by omega)).mono ?_; rintro e w' ⟨bo, rfl, hbo, hw⟩; obtain rfl := hbo (by omega) (by omega) (by omega) (by omega); obtain rfl := hw.symm; clear hbo hw)
      | (go_at_call_of 9 akey; refine Calls.mono (HA1.out _) ?_; rintro e w' ⟨rfl, hw⟩; obtain rfl := hw.symm)
      | (go_at_call_of 9 bkey; refine Calls.mono (HB1.out _) ?_; rintro e w' ⟨rfl, hw⟩; obtain rfl := hw.symm))
    refine Calls.mono (HCA.out _ ((C0.out.alloc _).alloc _).tab) ?_
    rintro e W1 ⟨rfl, hb1⟩
    have C1 := hideIt (((C0.out.alloc _).alloc _).step hb1)
    have k0 := two_cells hb1 0 (.int .u8 bk) rfl
    have k1 := two_cells hb1 1 (.int .i64 bt) rfl
    have k2 := two_cells hb1 2 (.string bkey) rfl
    have k3 := two_cells hb1 3 (.string bto) rfl
    have k4 := two_cells hb1 4 (.int .i64 bv) rfl
    have k5 := two_cells hb1 5 (.bool bnv) rfl
    clear hb1 C0 HCA
    go_wp2_with fail
    refine Calls.mono (HCB.out _ C1.out.tab) ?_
    rintro e W2 ⟨rfl, hb2⟩
    have C2 := hideIt (C1.out.step hb2)
    clear hb2 C1 HCB k0 k1 k2 k3 k4 k5
    go_wp2_with fail
    refine Calls.mono (HCS.out _) ?_
    rintro e W3 ⟨⟨bo, rfl, hbo⟩, hw⟩
    obtain rfl := hw.symm
    have HF := hideIt (fin_eq HP.out hbo)
    clear HCS HP hbo
    go_wp2
    go_ret
    exact ⟨ret_bool (by rw [HF.out]; exact beq_self_eq_true _), C2.out.below⟩
end Go.Proofs.Qxb6627473aDoor
