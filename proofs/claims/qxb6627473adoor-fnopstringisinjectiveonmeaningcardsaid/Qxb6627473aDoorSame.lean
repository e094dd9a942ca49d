/-
  zzNotB1HasComma, zzNotB1SameMeaning, zzBytes_FnOpStringIsInjectiveOnMeaning.
-/
import Derived.Test.Qxb6627473aDoorForm
namespace Go.Proofs.Qxb6627473aDoor
open Go.RowKit
open Go.Lib (decDigits itoa)
set_option linter.unusedVariables false

/-- The call gave a bool that says whether P. -/
def Says (P : Prop) (e : Ending) : Prop := ∃ bo : Bool, e = .returned (.bool bo) ∧ (bo = true ↔ P)
theorem Says.mk {P : Prop} (bo : Bool) (h : bo = true ↔ P) : Says P (.returned (.bool bo)) := ⟨bo, rfl, h⟩
theorem Says.yes {P : Prop} (h : P) : Says P (.returned (.bool true)) := Says.mk true ⟨fun _ => h, fun _ => rfl⟩
theorem Says.no {P : Prop} (h : ¬ P) : Says P (.returned (.bool false)) := Says.mk false ⟨fun h => (by cases h), fun h' => absurd h' h⟩

def hasComma (s : ByteArray) : Prop := (44 : UInt8) ∈ s.data.toList

theorem take_snoc (s : ByteArray) (k : Nat) (h : k < s.size) : s.data.toList.take (k + 1) = s.data.toList.take k ++ [s[k]] := by
  rw [List.take_succ_eq_append_getElem (by simpa using h)]; rfl

theorem byte_mem {s : ByteArray} {k : Nat} (h : k < s.size) : s[k] ∈ s.data.toList := Array.mem_toList_iff.2 (Array.getElem_mem (xs := s.data) h)

theorem byte_eq {c : UInt8} (h : (c.toNat : Int) = 44) : c = 44 := by
  apply UInt8.toNat_inj.1
  show c.toNat = 44
  omega

set_option maxHeartbeats 400000 in
theorem comma_any (s : ByteArray) (w : World) (hs : s.size ≤ 9223372036854775807) :
    Calls Tryd.prog 9 #[.string s] w fun e w' => Says (hasComma s) e ∧ w' = w := by
  go_enter Tryd.func9, Tryd.ntmps9
  go_wp2
  go_loop [3] (fun i => ∃ k : Nat, k ≤ s.size ∧ i = .int .i64 k ∧ Hid ((44 : UInt8) ∉ s.data.toList.take k)) (fun i => s.size - (intOf i).toNat)
  case atStart => exact ⟨0, Nat.zero_le _, rfl, by show (44 : UInt8) ∉ List.take 0 _; simp⟩
  case round =>
    obtain ⟨k, hk, rfl, HA⟩ := hrel
    by_cases hlt : k < s.size
    · by_cases hc : (s[k].toNat : Int) = 44
      · have hc' : ((s[k].toNat : Int) == 44) = true := by simpa using hc
        have HM : Hid (hasComma s) := by
          have := byte_mem hlt
          rw [byte_eq hc] at this
          exact this
        clear hc
        go_wp2
        go_ret
        exact ⟨Says.yes HM.out, rfl⟩
      · have hc' : ((s[k].toNat : Int) == 44) = false := by simpa using hc
        have HN : Hid ((44 : UInt8) ∉ s.data.toList.take (k + 1)) := by
          show (44 : UInt8) ∉ s.data.toList.take (k + 1)
          rw [take_snoc s k hlt]
          intro hm
          rcases List.mem_append.1 hm with hm | hm
          · exact HA.out hm
          · simp only [List.mem_singleton] at hm
            exact hc (by rw [← hm]; rfl)
        clear hc
        go_wp2
        go_round
        case rel => exact ⟨k + 1, by omega, by go_num, HN⟩
        case measure => simp [intOf]; omega
    · have HN : Hid (¬ hasComma s) := by
        have := HA.out
        rwa [List.take_of_length_le (by simp; omega)] at this
      go_wp2
      go_ret
      exact ⟨Says.no HN.out, rfl⟩

theorem bytes8_any (ak at_ av bk bt bv : Int) (akey ato bkey bto : ByteArray) (anv bnv : Bool) (w : World) (h0 : akey.size ≤ 9223372036854775807) (h1 : ato.size ≤ 9223372036854775807) (h2 : bkey.size ≤ 9223372036854775807) (h3 : bto.size ≤ 9223372036854775807) :
    Calls Tryd.prog 8 #[.int .u8 ak, .int .i64 at_, .string akey, .string ato, .int .i64 av, .bool anv, .int .u8 bk, .int .i64 bt, .string bkey, .string bto, .int .i64 bv, .bool bnv] w fun e w' =>
      ∃ bo, e = .returned (.bool bo) ∧ (akey.size ≤ 262144 → ato.size ≤ 262144 → bkey.size ≤ 262144 → bto.size ≤ 262144 → bo = true) ∧ w' = w := by
  by_cases h : akey.size ≤ 262144 ∧ ato.size ≤ 262144 ∧ bkey.size ≤ 262144 ∧ bto.size ≤ 262144
  · obtain ⟨a, b, c, d⟩ := h
    go_enter Tryd.func8, Tryd.ntmps8
    go_wp2
    go_ret
    exact ⟨_, rfl, fun _ _ _ _ => rfl, rfl⟩
  · have H := hideIt h
    clear h
    go_enter Tryd.func8, Tryd.ntmps8
    go_wp2
    all_goals go_ret
    all_goals exact ⟨_, rfl, fun a b c d => absurd ⟨a, b, c, d⟩ H.out, rfl⟩

theorem beq_str {a b : ByteArray} (h : a.data.toList = b.data.toList) : (a.toList == b.toList) = true := beq_of h
theorem bne_str {a b : ByteArray} (h : ¬ a.data.toList = b.data.toList) : (a.toList == b.toList) = false := by
  rw [Lib.toList_data, Lib.toList_data]
  exact beq_eq_false_iff_ne.2 h

set_option maxHeartbeats 1600000 in
theorem same_any (ak at_ av bk bt bv : Int) (akey ato bkey bto : ByteArray) (anv bnv : Bool) (w : World) :
    Calls Tryd.prog 10 #[.int .u8 ak, .int .i64 at_, .string akey, .string ato, .int .i64 av, .bool anv, .int .u8 bk, .int .i64 bt, .string bkey, .string bto, .int .i64 bv, .bool bnv] w fun e w' =>
      Says (same ⟨ak, at_, akey.data.toList, ato.data.toList, av, anv⟩ ⟨bk, bt, bkey.data.toList, bto.data.toList, bv, bnv⟩) e ∧ w' = w := by
  by_cases hk : ak = bk
  case neg =>
    have hk' : (ak == bk) = false := by simpa using hk
    have H := hideIt (show ¬ same ⟨ak, at_, akey.data.toList, ato.data.toList, av, anv⟩ ⟨bk, bt, bkey.data.toList, bto.data.toList, bv, bnv⟩ from fun h => hk h.1)
    clear hk
    go_enter Tryd.func10, Tryd.ntmps10
    go_wp2
    go_ret
    exact ⟨Says.no H.out, rfl⟩
  subst hk
  by_cases ht : at_ = bt
  case neg =>
    have ht' : (at_ == bt) = false := by simpa using ht
    have H := hideIt (show ¬ same ⟨ak, at_, akey.data.toList, ato.data.toList, av, anv⟩ ⟨ak, bt, bkey.data.toList, bto.data.toList, bv, bnv⟩ from fun h => ht h.2.1)
    clear ht
    go_enter Tryd.func10, Tryd.ntmps10
    go_wp2
    go_ret
    exact ⟨Says.no H.out, rfl⟩
  subst ht
  have key : ((ak = 1 ∨ ak = 5 → akey.data.toList = bkey.data.toList) ∧ (ak = 6 → akey.data.toList = bkey.data.toList ∧ ato.data.toList = bto.data.toList) ∧ (ak = 2 → akey.data.toList = bkey.data.toList ∧ anv = bnv ∧ (anv = false → av = bv))) ↔
      same ⟨ak, at_, akey.data.toList, ato.data.toList, av, anv⟩ ⟨ak, at_, bkey.data.toList, bto.data.toList, bv, bnv⟩ :=
    ⟨fun ⟨a, b, c⟩ => ⟨rfl, rfl, a, b, c⟩, fun ⟨_, _, a, b, c⟩ => ⟨a, b, c⟩⟩
  by_cases c1 : ak = 1 ∨ ak = 5
  · by_cases e1 : akey.data.toList = bkey.data.toList
    · have e2 := beq_str e1
      have H := hideIt e1
      clear e1
      rcases c1 with rfl | rfl
      all_goals
        have Y := hideIt (key.1 ⟨fun _ => H.out, fun h => by omega, fun h => by omega⟩)
        clear key
        go_enter Tryd.func10, Tryd.ntmps10
        go_wp2
        go_ret
        exact ⟨Says.yes Y.out, rfl⟩
    · have e2 := bne_str e1
      have H := hideIt e1
      clear e1
      rcases c1 with rfl | rfl
      all_goals
        have Y := hideIt (fun hs : same _ _ => H.out ((key.2 hs).1 (by omega)))
        clear key
        go_enter Tryd.func10, Tryd.ntmps10
        go_wp2
        go_ret
        exact ⟨Says.no Y.out, rfl⟩
  · by_cases c2 : ak = 6
    · subst c2
      clear c1
      by_cases e1 : akey.data.toList = bkey.data.toList
      · have e2 := beq_str e1
        have H := hideIt e1
        clear e1
        by_cases e3 : ato.data.toList = bto.data.toList
        · have e4 := beq_str e3
          have H' := hideIt e3
          clear e3
          have Y := hideIt (key.1 ⟨fun h => by omega, fun _ => ⟨H.out, H'.out⟩, fun h => by omega⟩)
          clear key
          go_enter Tryd.func10, Tryd.ntmps10
          go_wp2
          go_ret
          exact ⟨Says.yes Y.out, rfl⟩
        · have e4 := bne_str e3
          have H' := hideIt e3
          clear e3
          have Y := hideIt (fun hs : same _ _ => H'.out ((key.2 hs).2.1 rfl).2)
          clear key
          go_enter Tryd.func10, Tryd.ntmps10
          go_wp2
          go_ret
          exact ⟨Says.no Y.out, rfl⟩
      · have e2 := bne_str e1
        have H := hideIt e1
        clear e1
        have Y := hideIt (fun hs : same _ _ => H.out ((key.2 hs).2.1 rfl).1)
        clear key
        go_enter Tryd.func10, Tryd.ntmps10
        go_wp2
        go_ret
        exact ⟨Says.no Y.out, rfl⟩
    · by_cases c3 : ak = 2
      · subst c3
        clear c1 c2
        by_cases e1 : akey.data.toList = bkey.data.toList
        · have e2 := beq_str e1
          have H := hideIt e1
          clear e1
          cases anv <;> cases bnv
          · by_cases e3 : av = bv
            · have e4 : (av == bv) = true := by simpa using e3
              have H' := hideIt e3
              clear e3
              have Y := hideIt (key.1 ⟨fun h => by omega, fun h => by omega, fun _ => ⟨H.out, rfl, fun _ => H'.out⟩⟩)
              clear key
              go_enter Tryd.func10, Tryd.ntmps10
              go_wp2
              go_ret
              exact ⟨Says.yes Y.out, rfl⟩
            · have e4 : (av == bv) = false := by simpa using e3
              have H' := hideIt e3
              clear e3
              have Y := hideIt (fun hs : same _ _ => H'.out (((key.2 hs).2.2 rfl).2.2 rfl))
              clear key
              go_enter Tryd.func10, Tryd.ntmps10
              go_wp2
              go_ret
              exact ⟨Says.no Y.out, rfl⟩
          · have Y : Hid (¬ same _ _) := hideIt (fun hs : same _ _ => (by cases ((key.2 hs).2.2 rfl).2.1))
            clear key
            go_enter Tryd.func10, Tryd.ntmps10
            go_wp2
            go_ret
            exact ⟨Says.no Y.out, rfl⟩
          · have Y : Hid (¬ same _ _) := hideIt (fun hs : same _ _ => (by cases ((key.2 hs).2.2 rfl).2.1))
            clear key
            go_enter Tryd.func10, Tryd.ntmps10
            go_wp2
            go_ret
            exact ⟨Says.no Y.out, rfl⟩
          · have Y := hideIt (key.1 ⟨fun h => by omega, fun h => by omega, fun _ => ⟨H.out, rfl, fun h => by cases h⟩⟩)
            clear key
            go_enter Tryd.func10, Tryd.ntmps10
            go_wp2
            go_ret
            exact ⟨Says.yes Y.out, rfl⟩
        · have e2 := bne_str e1
          have H := hideIt e1
          clear e1
          have Y := hideIt (fun hs : same _ _ => H.out ((key.2 hs).2.2 rfl).1)
          clear key
          go_enter Tryd.func10, Tryd.ntmps10
          go_wp2
          go_ret
          exact ⟨Says.no Y.out, rfl⟩
      · have d1 : (ak == 1) = false := by simp; omega
        have d5 : (ak == 5) = false := by simp; omega
        have d6 : (ak == 6) = false := by simp; omega
        have d2 : (ak == 2) = false := by simp; omega
        have H := hideIt (show ak ≠ 1 ∧ ak ≠ 5 ∧ ak ≠ 6 ∧ ak ≠ 2 by omega)
        clear c1 c2 c3
        have Y := hideIt (key.1 ⟨fun h => by have := H.out; omega, fun h => by have := H.out; omega, fun h => by have := H.out; omega⟩)
        clear key
        go_enter Tryd.func10, Tryd.ntmps10
        go_wp2
        go_ret
        exact ⟨Says.yes Y.out, rfl⟩
end Go.Proofs.Qxb6627473aDoor
