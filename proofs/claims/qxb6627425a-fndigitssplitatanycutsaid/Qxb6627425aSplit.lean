/-
  FnDigitsSplitAtAnyCut, its main road.
-/
import Derived.Test.Qxb6627425aDecimal
namespace Go.Proofs.Qxb6627425a
open Go.RowKit

theorem digB_eq (l : List UInt8) : digB l = (!l.isEmpty && l.all isD) := rfl

theorem ext_left (s : ByteArray) (p : Nat) : (s.extract 0 p).data.toList = s.data.toList.take p := by
  rw [Lib.extract_data]; simp
theorem ext_right (s : ByteArray) (p : Nat) : (s.extract p s.size).data.toList = s.data.toList.drop p := by
  rw [Lib.extract_data, List.take_of_length_le (by simp)]

theorem all_cut (s : ByteArray) (p : Nat) : s.data.toList.all isD = ((s.extract 0 p).data.toList.all isD && (s.extract p s.size).data.toList.all isD) := by
  rw [ext_left, ext_right, ← List.all_append, List.take_append_drop]

theorem dig_cat (L D R : ByteArray) (h : digB D.data.toList = true) : digB (L ++ D ++ R).data.toList = (L.data.toList.all isD && R.data.toList.all isD) := by
  have e : (L ++ D ++ R).data.toList = L.data.toList ++ D.data.toList ++ R.data.toList := by simp [ByteArray.data_append]
  unfold digB at h
  rw [Bool.and_eq_true] at h
  have hne : (L.data.toList ++ D.data.toList ++ R.data.toList).isEmpty = false := by
    cases hD : D.data.toList with
    | nil => rw [hD] at h; simp at h
    | cons x r => cases L.data.toList <;> rfl
  rw [digB_eq, e, hne, List.all_append, List.all_append, h.2]
  simp

theorem size_ext (s : ByteArray) (a b : Nat) : (s.extract a b).size ≤ s.size := by
  have := congrArg List.length (Lib.extract_data s a b)
  simp at this
  simp
  omega

theorem isEmpty_of {s : ByteArray} (h : s.size = 0) : s.toList.isEmpty = true := by rw [isEmpty_size, decide_eq_true h]
theorem not_empty {s : ByteArray} (h : s.size ≠ 0) : s.toList.isEmpty = false := by rw [isEmpty_size, decide_eq_false h]

set_option maxHeartbeats 1600000 in
theorem core3 (s : ByteArray) (p : Nat) (n : Int) (bs bl br bc : Bool) (w : World) (hs : s.size ≤ 1048576) (hp : p ≤ s.size) (h0 : 0 ≤ n) (h1 : n ≤ 18446744073709551615)
    (HZs : Hid (∀ w, Calls Try.prog 7 #[.string s] w fun e w' => e = .returned (.bool bs) ∧ w' = w))
    (HZl : Hid (∀ w, Calls Try.prog 7 #[.string (s.extract 0 p)] w fun e w' => e = .returned (.bool bl) ∧ w' = w))
    (HZr : Hid (∀ w, Calls Try.prog 7 #[.string (s.extract p s.size)] w fun e w' => e = .returned (.bool br) ∧ w' = w))
    (HZc : Hid (∀ D : ByteArray, D.size ≤ 20 → digB D.data.toList = true → ∀ w, Calls Try.prog 7 #[.string (s.extract 0 p ++ D ++ s.extract p s.size)] w fun e w' => e = .returned (.bool bc) ∧ w' = w))
    (hcase : (s.toList.isEmpty = true ∧ (s.extract 0 p).toList.isEmpty = true ∧ (s.extract p s.size).toList.isEmpty = true ∧ bs = false ∧ bc = true) ∨
      (s.toList.isEmpty = false ∧ (s.extract 0 p).toList.isEmpty = true ∧ (s.extract p s.size).toList.isEmpty = false ∧ bs = br ∧ bc = br) ∨
      (s.toList.isEmpty = false ∧ (s.extract 0 p).toList.isEmpty = false ∧ (s.extract p s.size).toList.isEmpty = true ∧ bs = bl ∧ bc = bl) ∨
      (s.toList.isEmpty = false ∧ (s.extract 0 p).toList.isEmpty = false ∧ (s.extract p s.size).toList.isEmpty = false ∧ bs = (bl && br) ∧ bc = (bl && br))) :
    Calls Try.prog 3 #[.string s, .int .i64 p, .int .u64 n] w fun e w' => e = .returned (.bool true) ∧ Below w.heap.size w w' := by
  have t1 : decide ((1048576 : Int) < (s.size : Int)) = false := decide_eq_false (by omega)
  have t2 : decide ((p : Int) < 0) = false := decide_eq_false (by omega)
  have t3 : decide (s.size < p) = false := decide_eq_false (by omega)
  have HC := hideIt hcase
  clear hcase
  go_enter Try.func3, Try.ntmps3
  go_wp2_with (first
    | (go_at_call 5; refine (bytes5_any s p n _ (by omega)).mono ?_; rintro e w' ⟨bo, rfl, hbo, hw⟩; obtain rfl := hbo (by omega); obtain rfl := hw.symm; clear hbo hw)
    | (go_at_call 6; refine (decimal_any n _ h0 h1).mono ?_; rintro e W1 ⟨D, rfl, hDs, hDd, hbel⟩))
  have HZd := hideIt (fun w => zz_any D w (by omega))
  rw [hDd] at HZd
  have HZc' := hideIt (HZc.out D hDs hDd)
  have hcase := HC.out
  clear HC HZc hDd
  have hLs : (s.extract 0 p).size ≤ 1048576 := Nat.le_trans (size_ext s _ _) hs
  have hRs : (s.extract p s.size).size ≤ 1048576 := Nat.le_trans (size_ext s _ _) hs
  obtain ⟨L, hL⟩ : ∃ L, L = s.extract 0 p := ⟨_, rfl⟩
  obtain ⟨R, hR⟩ : ∃ R, R = s.extract p s.size := ⟨_, rfl⟩
  rw [← hL, ← hR] at hcase HZc'
  rw [← hL] at HZl hLs
  rw [← hR] at HZr hRs
  rw [← hL, ← hR]
  clear hL hR
  refine Calls.mono (HZs.out _) ?_
  rintro e w' ⟨rfl, hw⟩
  obtain rfl := hw.symm
  clear HZs hw
  rcases hcase with ⟨e1, e2, e3, rfl, rfl⟩ | ⟨e1, e2, e3, rfl, rfl⟩ | ⟨e1, e2, e3, rfl, rfl⟩ | ⟨e1, e2, e3, rfl, rfl⟩
  rotate_left
  · cases bc
    all_goals
      go_wp2_with (first
        | (go_at_call_of 7 (L ++ D ++ R); refine Calls.mono (HZc'.out _) ?_; rintro e w' ⟨rfl, hw⟩; obtain rfl := hw.symm)
        | (go_at_call_of 7 D; refine Calls.mono (HZd.out _) ?_; rintro e w' ⟨rfl, hw⟩; obtain rfl := hw.symm)
        | (go_at_call_of 7 R; refine Calls.mono (HZr.out _) ?_; rintro e w' ⟨rfl, hw⟩; obtain rfl := hw.symm))
      go_ret
      exact ⟨rfl, hbel⟩
  · cases bc
    all_goals
      go_wp2_with (first
        | (go_at_call_of 7 (L ++ D ++ R); refine Calls.mono (HZc'.out _) ?_; rintro e w' ⟨rfl, hw⟩; obtain rfl := hw.symm)
        | (go_at_call_of 7 D; refine Calls.mono (HZd.out _) ?_; rintro e w' ⟨rfl, hw⟩; obtain rfl := hw.symm)
        | (go_at_call_of 7 L; refine Calls.mono (HZl.out _) ?_; rintro e w' ⟨rfl, hw⟩; obtain rfl := hw.symm))
      go_ret
      exact ⟨rfl, hbel⟩
  · cases bl <;> cases br
    all_goals
      simp only [Bool.and_true, Bool.and_false] at HZc' ⊢
      go_wp2_with (first
        | (go_at_call_of 7 (L ++ D ++ R); refine Calls.mono (HZc'.out _) ?_; rintro e w' ⟨rfl, hw⟩; obtain rfl := hw.symm)
        | (go_at_call_of 7 D; refine Calls.mono (HZd.out _) ?_; rintro e w' ⟨rfl, hw⟩; obtain rfl := hw.symm)
        | (go_at_call_of 7 L; refine Calls.mono (HZl.out _) ?_; rintro e w' ⟨rfl, hw⟩; obtain rfl := hw.symm)
        | (go_at_call_of 7 R; refine Calls.mono (HZr.out _) ?_; rintro e w' ⟨rfl, hw⟩; obtain rfl := hw.symm))
      go_ret
      exact ⟨rfl, hbel⟩
  · go_wp2_with (first
      | (go_at_call_of 7 (L ++ D ++ R); refine Calls.mono (HZc'.out _) ?_; rintro e w' ⟨rfl, hw⟩; obtain rfl := hw.symm)
      | (go_at_call_of 7 D; refine Calls.mono (HZd.out _) ?_; rintro e w' ⟨rfl, hw⟩; obtain rfl := hw.symm))
    go_ret
    exact ⟨rfl, hbel⟩
end Go.Proofs.Qxb6627425a
