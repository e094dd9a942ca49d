/-
  FnDigitsOneByteAnyPlace, its main road: the plain side and the walk.
-/
import Derived.Test.Qxb6627425aDigits
import Derived.Deep.OwnRows
import Derived.Laws.BytesArg
import Derived.Deep.RegionWith
namespace Go.Proofs.Qxb6627425a
open Go.RowKit

def nums (s : ByteArray) : List Int := s.data.toList.map fun x => (x.toNat : Int)
/-- s with c put in at place p. -/
def insAt (s : ByteArray) (p : Nat) (c : Int) : List Int := (nums s).take p ++ c :: (nums s).drop p

def dI (n : Int) : Bool := decide (48 ≤ n) && decide (n ≤ 57)

theorem nums_len (s : ByteArray) : (nums s).length = s.size := by simp [nums]
theorem ins_len (s : ByteArray) (p : Nat) (c : Int) (h : p ≤ s.size) : (insAt s p c).length = s.size + 1 := by
  simp [insAt, nums_len]; omega
theorem nums_at (s : ByteArray) (k : Nat) (h : k < s.size) : (nums s).getD k 0 = (s[k].toNat : Int) := by
  have hk : k < s.data.toList.length := by simpa using h
  simp only [nums, List.getD_eq_getElem?_getD, List.getElem?_map, List.getElem?_eq_getElem hk]
  rfl
theorem ins_low (s : ByteArray) (p : Nat) (c : Int) (hp : p ≤ s.size) (k : Nat) (h : k < p) : (insAt s p c).getD k 0 = (s[k].toNat : Int) := by
  rw [← nums_at s k (by omega)]
  simp only [insAt, List.getD_eq_getElem?_getD]
  rw [List.getElem?_append_left (by simp [nums_len]; omega), List.getElem?_take_of_lt h]
theorem ins_mid (s : ByteArray) (p : Nat) (c : Int) (hp : p ≤ s.size) : (insAt s p c).getD p 0 = c := by
  simp only [insAt, List.getD_eq_getElem?_getD]
  rw [List.getElem?_append_right (by simp [nums_len]; omega)]
  have : p - ((nums s).take p).length = 0 := by simp [nums_len]; omega
  rw [this]; rfl
theorem ins_high (s : ByteArray) (p : Nat) (c : Int) (hp : p ≤ s.size) (k : Nat) (h1 : p ≤ k) (h2 : k < s.size) : (insAt s p c).getD (k + 1) 0 = (s[k].toNat : Int) := by
  rw [← nums_at s k h2]
  simp only [insAt, List.getD_eq_getElem?_getD]
  rw [List.getElem?_append_right (by simp [nums_len]; omega)]
  have : k + 1 - ((nums s).take p).length = (k - p) + 1 := by simp [nums_len]; omega
  rw [this, List.getElem?_cons_succ, List.getElem?_drop, show p + (k - p) = k by omega]

theorem isD_of (n : Int) (h0 : 0 ≤ n) (h1 : n ≤ 255) : isD (UInt8.ofNat n.toNat) = dI n := by
  unfold isD dI
  have : ((UInt8.ofNat n.toNat).toNat : Int) = n := by
    rw [UInt8.toNat_ofNat', Nat.mod_eq_of_lt (by omega)]; omega
  rw [this]

theorem all_nums (xs : List Int) (h : ∀ n ∈ xs, 0 ≤ n ∧ n ≤ 255) : (strOfNums xs).data.toList.all isD = xs.all dI := by
  rw [strOfNums_data, List.all_map]
  induction xs with
  | nil => rfl
  | cons x r ih =>
    simp only [List.all_cons, Function.comp_apply]
    rw [isD_of x (h x (by simp)).1 (h x (by simp)).2, ih (fun n hn => h n (by simp [hn]))]

theorem nums_all (s : ByteArray) : (nums s).all dI = s.data.toList.all isD := by
  unfold nums
  rw [List.all_map]
  rfl

theorem nums_range (s : ByteArray) : ∀ n ∈ nums s, 0 ≤ n ∧ n ≤ 255 := by
  intro n hn
  obtain ⟨x, _, rfl⟩ := List.mem_map.1 hn
  have := x.toNat_lt
  omega

theorem ins_range (s : ByteArray) (p : Nat) (c : Int) (h0 : 0 ≤ c) (h1 : c ≤ 255) : ∀ n ∈ insAt s p c, 0 ≤ n ∧ n ≤ 255 := by
  intro n hn
  rcases List.mem_append.1 hn with h | h
  · exact nums_range s n (List.mem_of_mem_take h)
  · rcases List.mem_cons.1 h with rfl | h
    · exact ⟨h0, h1⟩
    · exact nums_range s n (List.mem_of_mem_drop h)

/-- THE LAW, FIRST HALF: one byte alone. -/
theorem dig_one (c : Int) (h0 : 0 ≤ c) (h1 : c ≤ 255) : digB (strOfNums [c]).data.toList = dI c := by
  unfold digB
  rw [all_nums [c] (by intro n hn; simp at hn; subst hn; exact ⟨h0, h1⟩), strOfNums_data]
  simp

/-- THE LAW, SECOND HALF: s with c put in. -/
theorem dig_ins (s : ByteArray) (p : Nat) (c : Int) (h0 : 0 ≤ c) (h1 : c ≤ 255) : digB (strOfNums (insAt s p c)).data.toList = (dI c && s.data.toList.all isD) := by
  unfold digB
  rw [all_nums _ (ins_range s p c h0 h1)]
  have e : (strOfNums (insAt s p c)).data.toList.isEmpty = false := by
    rw [strOfNums_data]; simp [insAt]
  rw [e]
  unfold insAt
  rw [List.all_append, List.all_cons, ← nums_all s]
  conv => rhs; rw [← List.take_append_drop p (nums s), List.all_append]
  cases dI c <;> simp

theorem isEmpty_size (s : ByteArray) : s.toList.isEmpty = decide (s.size = 0) := by
  rw [Lib.toList_data, Bool.eq_iff_iff, List.isEmpty_iff_length_eq_zero, decide_eq_true_eq]
  show s.data.toList.length = 0 ↔ s.data.size = 0
  rw [Array.length_toList]

theorem dig_empty (s : ByteArray) (h : s.size = 0) : s.data.toList.all isD = true := by
  have : s.data.toList = [] := List.eq_nil_of_length_eq_zero (by simpa using h)
  rw [this]; rfl

theorem dig_full (s : ByteArray) (h : s.size ≠ 0) : s.data.toList.all isD = digB s.data.toList := by
  unfold digB
  have : s.data.toList.isEmpty = false := by
    have := isEmpty_size s
    rw [Lib.toList_data] at this
    rw [this]; simpa using h
  rw [this]; rfl
end Go.Proofs.Qxb6627425a
