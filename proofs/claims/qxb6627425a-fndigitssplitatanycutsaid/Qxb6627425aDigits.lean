/-
  THE LEAVES: zzBytes.., digits, ZZdigits.
-/
import Derived.Test.Qxb6627425aRows
import Derived.WalkKit
import Derived.WalkSpells
import Derived.Below
import Derived.Lib.Strings
namespace Go.Proofs.Qxb6627425a
open Go.RowKit

def isD (c : UInt8) : Bool := decide (48 ≤ (c.toNat : Int)) && decide ((c.toNat : Int) ≤ 57)
/-- One or more decimal digits and nothing else. -/
def digB (l : List UInt8) : Bool := !l.isEmpty && l.all isD

theorem take_snoc (s : ByteArray) (k : Nat) (h : k < s.size) : s.data.toList.take (k + 1) = s.data.toList.take k ++ [s[k]] := by
  rw [List.take_succ_eq_append_getElem (by simpa using h)]; rfl

theorem ret_bool {a b : Bool} (h : a = b) : Ending.returned (.bool a) = .returned (.bool b) := by rw [h]

theorem isD_true {c : UInt8} (h1 : 48 ≤ (c.toNat : Int)) (h2 : (c.toNat : Int) ≤ 57) : isD c = true := by simp [isD, h1, h2]
theorem isD_low {c : UInt8} (h1 : (c.toNat : Int) < 48) : isD c = false := by
  unfold isD; rw [decide_eq_false (by omega)]; rfl
theorem isD_high {c : UInt8} (h1 : 57 < (c.toNat : Int)) : isD c = false := by
  unfold isD; rw [decide_eq_false (p := (c.toNat : Int) ≤ 57) (by omega), Bool.and_false]

theorem digB_false {s : ByteArray} {k : Nat} (h : k < s.size) (hd : isD s[k] = false) : digB s.data.toList = false := by
  unfold digB
  have : s.data.toList.all isD = false := by
    rw [List.all_eq_false]
    exact ⟨s[k], Array.mem_toList_iff.2 (Array.getElem_mem (xs := s.data) h), by simp [hd]⟩
  rw [this, Bool.and_false]

set_option maxHeartbeats 400000 in
theorem digits_any (s : ByteArray) (w : World) (hs : s.size ≤ 9223372036854775807) :
    Calls Try.prog 9 #[.string s] w fun e w' => e = .returned (.bool (digB s.data.toList)) ∧ w' = w := by
  go_enter Try.func9, Try.ntmps9
  go_wp2
  go_loop [6] (fun i => ∃ k : Nat, k ≤ s.size ∧ i = .int .i64 k ∧ Hid ((s.data.toList.take k).all isD = true)) (fun i => s.size - (intOf i).toNat)
  case atStart => exact ⟨0, Nat.zero_le _, rfl, by show (List.take 0 _).all isD = true; simp⟩
  case round =>
    obtain ⟨k, hk, rfl, HA⟩ := hrel
    by_cases hlt : k < s.size
    · by_cases h1 : (s[k].toNat : Int) < 48
      · have HF : Hid (digB s.data.toList = false) := digB_false hlt (isD_low h1)
        go_wp2
        go_ret
        exact ⟨ret_bool HF.out.symm, rfl⟩
      · by_cases h2 : 57 < (s[k].toNat : Int)
        · have HF : Hid (digB s.data.toList = false) := digB_false hlt (isD_high h2)
          go_wp2
          go_ret
          exact ⟨ret_bool HF.out.symm, rfl⟩
        · have HN : Hid ((s.data.toList.take (k + 1)).all isD = true) := by
            show (s.data.toList.take (k + 1)).all isD = true
            rw [take_snoc s k hlt, List.all_append, HA.out]
            simp [isD_true (c := s[k]) (by omega) (by omega)]
          go_wp2
          go_round
          case rel => exact ⟨k + 1, by omega, by go_num, HN⟩
          case measure => simp [intOf]; omega
    · have HN : Hid (s.data.toList.all isD = true) := by
        have := HA.out
        rwa [List.take_of_length_le (by simp; omega)] at this
      go_wp2
      go_ret
      exact ⟨ret_bool (by unfold digB; rw [HN.out, Bool.and_true, ← Lib.toList_data]), rfl⟩

theorem zz_any (s : ByteArray) (w : World) (hs : s.size ≤ 9223372036854775807) :
    Calls Try.prog 7 #[.string s] w fun e w' => e = .returned (.bool (digB s.data.toList)) ∧ w' = w := by
  go_enter Try.func7, Try.ntmps7
  go_wp2_with (go_at_call 9; refine (digits_any s _ hs).mono ?_; rintro e w' ⟨rfl, rfl⟩)
  go_ret
  exact ⟨rfl, rfl⟩

theorem bytes5_any (s : ByteArray) (i n : Int) (w : World) (hs : s.size ≤ 9223372036854775807) :
    Calls Try.prog 5 #[.string s, .int .i64 i, .int .u64 n] w fun e w' => ∃ bo, e = .returned (.bool bo) ∧ (s.size ≤ 1048576 → bo = true) ∧ w' = w := by
  by_cases h : s.size ≤ 1048576
  · go_enter Try.func5, Try.ntmps5
    go_wp2
    go_ret
    exact ⟨_, rfl, fun _ => rfl, rfl⟩
  · go_enter Try.func5, Try.ntmps5
    go_wp2
    go_ret
    exact ⟨_, rfl, fun h' => absurd h' h, rfl⟩

theorem bytes8_any (s : ByteArray) (i n : Int) (w : World) (hs : s.size ≤ 9223372036854775807) :
    Calls Try.prog 8 #[.string s, .int .i64 i, .int .u8 n] w fun e w' => ∃ bo, e = .returned (.bool bo) ∧ (s.size ≤ 1048576 → bo = true) ∧ w' = w := by
  by_cases h : s.size ≤ 1048576
  · go_enter Try.func8, Try.ntmps8
    go_wp2
    go_ret
    exact ⟨_, rfl, fun _ => rfl, rfl⟩
  · go_enter Try.func8, Try.ntmps8
    go_wp2
    go_ret
    exact ⟨_, rfl, fun h' => absurd h' h, rfl⟩
end Go.Proofs.Qxb6627425a
