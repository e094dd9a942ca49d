/-
  FnOpStringAgreesWithReadForm, its main road, a walk a kind.
-/
import Derived.Test.Qxb6627473aDoorItoa64
namespace Go.Proofs.Qxb6627473aDoor
open Go.RowKit
open Go.Lib (decDigits itoa)
set_option linter.unusedVariables false

/-- Nothing old has turned, and the table lies. -/
structure Carry (w W : World) : Prop where
  below : Below w.heap.size w W
  tab : Tab W
theorem Carry.step {w W W' : World} (c : Carry w W) (h : Below W.heap.size W W') : Carry w W' := ⟨c.below.trans (h.mono c.below.size), c.tab.later h⟩
theorem Carry.alloc {w W : World} (c : Carry w W) (o : Obj) : Carry w (W.alloc o) := c.step ((Below.refl _ _).alloc (Nat.le_refl _) _)
theorem Carry.start {w : World} (t : Tab w) : Carry w w := ⟨Below.refl _ _, t⟩

theorem ret_bool {a b : Bool} (h : a = b) : Ending.returned (.bool a) = .returned (.bool b) := by rw [h]
theorem beq_of {a b : ByteArray} (h : a.data.toList = b.data.toList) : (a.toList == b.toList) = true := by
  rw [Lib.toList_data, Lib.toList_data, h]; exact beq_self_eq_true _

theorem bytes5_any (k t v : Int) (key to : ByteArray) (nv : Bool) (w : World) (h0 : key.size ≤ 9223372036854775807) (h1 : to.size ≤ 9223372036854775807) :
    Calls Tryd.prog 5 #[.int .u8 k, .int .i64 t, .string key, .string to, .int .i64 v, .bool nv] w fun e w' => ∃ bo, e = .returned (.bool bo) ∧ (key.size ≤ 524288 → to.size ≤ 524288 → bo = true) ∧ w' = w := by
  by_cases h : key.size ≤ 524288
  · by_cases h' : to.size ≤ 524288
    · go_enter Tryd.func5, Tryd.ntmps5
      go_wp2
      go_ret
      exact ⟨_, rfl, fun _ _ => rfl, rfl⟩
    · go_enter Tryd.func5, Tryd.ntmps5
      go_wp2
      all_goals go_ret
      all_goals exact ⟨_, rfl, fun _ h2 => absurd h2 h', rfl⟩
  · go_enter Tryd.func5, Tryd.ntmps5
    go_wp2
    all_goals go_ret
    all_goals exact ⟨_, rfl, fun h2 => absurd h2 h, rfl⟩

theorem app_list (a b : ByteArray) : (a ++ b).data.toList = a.data.toList ++ b.data.toList := by simp [ByteArray.data_append]

theorem body_of {R : ByteArray} {c : UInt8} {l : List UInt8} (h : R.data.toList = c :: l) : (R.extract 1 R.size).data.toList = l := by
  rw [Lib.extract_data, h, List.drop_one, List.tail_cons, List.take_of_length_le]
  have := congrArg List.length h
  simp at this
  have e : R.size = R.data.size := rfl
  omega

theorem open_of {R : ByteArray} {c d : UInt8} {l : List UInt8} (h : R.data.toList = c :: (l ++ [d])) : (R.extract 1 (R.size - 1)).data.toList = l := by
  rw [Lib.extract_data, h, List.drop_one, List.tail_cons]
  have := congrArg List.length h
  simp at this
  have e : R.size = R.data.size := rfl
  rw [show R.size - 1 - 1 = l.length by omega, List.take_left']
  rfl

set_option maxHeartbeats 1600000 in
theorem form_0 (t v : Int) (key to : ByteArray) (nv : Bool) (w : World) (S R T : ByteArray) (HT : Hid (T = bytes (itoa t))) (hT : T.size ≤ 21)
    (HS : Hid (S = bytes (text ⟨0, t, key.data.toList, to.data.toList, v, nv⟩))) (HR : Hid (R.data.toList = 114 :: ((itoa t ++ 40 :: key.data.toList) ++ [41])))
    (hR : (R.toList == (({ data := #[114] } : ByteArray) ++ T ++ ({ data := #[40] } : ByteArray) ++ key ++ ({ data := #[41] } : ByteArray)).toList) = true)
    (hR0 : 3 ≤ R.size) (hR1 : R.size ≤ 1048576) (hk : key.size ≤ 524288) (hto : to.size ≤ 524288) (ht : Tab w)
    (HCS : Hid (∀ W, Tab W → Calls Tryd.prog 6 #[.agg #[.int .u8 0, .int .i64 t, .string key, .string to, .int .i64 v, .bool nv]] W fun e w' => e = .returned (.string S) ∧ Below W.heap.size W w'))
    (HCR : Hid (∀ W, Tab W → Calls Tryd.prog 6 #[.agg #[.int .u8 1, .int .i64 t, .string key, .string { data := #[] }, .int .i64 0, .bool false]] W fun e w' => e = .returned (.string R) ∧ Below W.heap.size W w'))
    (HCT : Hid (∀ W, Tab W → Calls Tryd.prog 7 #[.int .i64 t] W fun e w' => e = .returned (.string T) ∧ Below W.heap.size W w')) :
    Calls Tryd.prog 3 #[.int .u8 0, .int .i64 t, .string key, .string to, .int .i64 v, .bool nv] w fun e w' => e = .returned (.bool true) ∧ Below w.heap.size w w' := by
  have C0 := hideIt (Carry.start ht)
  clear ht
  have t1 : decide ((524288 : Int) < (key.size : Int)) = false := decide_eq_false (by omega)
  have t2 : decide ((524288 : Int) < (to.size : Int)) = false := decide_eq_false (by omega)
  go_enter Tryd.func3, Tryd.ntmps3
  go_wp2_with (go_at_call 5; refine (bytes5_any 0 t v key to nv _ (by omega) (by omega)).mono ?_; rintro e w' ⟨bo, rfl, hbo, hw⟩; obtain rfl := hbo (by omega) (by omega); obtain rfl := hw.symm; clear hbo hw)
  refine Calls.mono (HCS.out _ (C0.out.alloc _).tab) ?_
  rintro e W1 ⟨rfl, hb1⟩
  have C1 := hideIt ((C0.out.alloc _).step hb1)
  clear hb1 C0 HCS
  go_wp2_with fail
  refine Calls.mono (HCR.out _ (C1.out.alloc _).tab) ?_
  rintro e W2 ⟨rfl, hb2⟩
  have C2 := hideIt ((C1.out.alloc _).step hb2)
  clear hb2 C1 HCR
  go_wp2_with fail
  refine Calls.mono (HCT.out _ C2.out.tab) ?_
  rintro e W3 ⟨rfl, hb3⟩
  have C3 := hideIt (C2.out.step hb3)
  clear hb3 C2 HCT
  go_wp2
  go_ret
  exact ⟨ret_bool (beq_of (by rw [HS.out, HT.out, bytes_list, app_list, bytes_list]; simp [text, letter, tail])), C3.out.below⟩

set_option maxHeartbeats 1600000 in
theorem form_1 (t v : Int) (key to : ByteArray) (nv : Bool) (w : World) (S R T : ByteArray) (HT : Hid (T = bytes (itoa t))) (hT : T.size ≤ 21)
    (HS : Hid (S = bytes (text ⟨1, t, key.data.toList, to.data.toList, v, nv⟩))) (HR : Hid (R.data.toList = 114 :: ((itoa t ++ 40 :: key.data.toList) ++ [41])))
    (hR : (R.toList == (({ data := #[114] } : ByteArray) ++ T ++ ({ data := #[40] } : ByteArray) ++ key ++ ({ data := #[41] } : ByteArray)).toList) = true)
    (hR0 : 3 ≤ R.size) (hR1 : R.size ≤ 1048576) (hk : key.size ≤ 524288) (hto : to.size ≤ 524288) (ht : Tab w)
    (HCS : Hid (∀ W, Tab W → Calls Tryd.prog 6 #[.agg #[.int .u8 1, .int .i64 t, .string key, .string to, .int .i64 v, .bool nv]] W fun e w' => e = .returned (.string S) ∧ Below W.heap.size W w'))
    (HCR : Hid (∀ W, Tab W → Calls Tryd.prog 6 #[.agg #[.int .u8 1, .int .i64 t, .string key, .string { data := #[] }, .int .i64 0, .bool false]] W fun e w' => e = .returned (.string R) ∧ Below W.heap.size W w'))
    (HCT : Hid (∀ W, Tab W → Calls Tryd.prog 7 #[.int .i64 t] W fun e w' => e = .returned (.string T) ∧ Below W.heap.size W w')) :
    Calls Tryd.prog 3 #[.int .u8 1, .int .i64 t, .string key, .string to, .int .i64 v, .bool nv] w fun e w' => e = .returned (.bool true) ∧ Below w.heap.size w w' := by
  have C0 := hideIt (Carry.start ht)
  clear ht
  have t1 : decide ((524288 : Int) < (key.size : Int)) = false := decide_eq_false (by omega)
  have t2 : decide ((524288 : Int) < (to.size : Int)) = false := decide_eq_false (by omega)
  go_enter Tryd.func3, Tryd.ntmps3
  go_wp2_with (go_at_call 5; refine (bytes5_any 1 t v key to nv _ (by omega) (by omega)).mono ?_; rintro e w' ⟨bo, rfl, hbo, hw⟩; obtain rfl := hbo (by omega) (by omega); obtain rfl := hw.symm; clear hbo hw)
  refine Calls.mono (HCS.out _ (C0.out.alloc _).tab) ?_
  rintro e W1 ⟨rfl, hb1⟩
  have C1 := hideIt ((C0.out.alloc _).step hb1)
  clear hb1 C0 HCS
  go_wp2_with fail
  refine Calls.mono (HCR.out _ (C1.out.alloc _).tab) ?_
  rintro e W2 ⟨rfl, hb2⟩
  have C2 := hideIt ((C1.out.alloc _).step hb2)
  clear hb2 C1 HCR
  go_wp2_with fail
  refine Calls.mono (HCT.out _ C2.out.tab) ?_
  rintro e W3 ⟨rfl, hb3⟩
  have C3 := hideIt (C2.out.step hb3)
  clear hb3 C2 HCT
  go_wp2
  go_ret
  exact ⟨ret_bool (beq_of (by rw [HS.out, bytes_list, HR.out]; simp [text, letter, tail])), C3.out.below⟩

set_option maxHeartbeats 1600000 in
theorem form_2n (t v : Int) (key to : ByteArray) (w : World) (S R T : ByteArray) (HT : Hid (T = bytes (itoa t))) (hT : T.size ≤ 21)
    (HS : Hid (S = bytes (text ⟨2, t, key.data.toList, to.data.toList, v, true⟩))) (HR : Hid (R.data.toList = 114 :: ((itoa t ++ 40 :: key.data.toList) ++ [41])))
    (hR : (R.toList == (({ data := #[114] } : ByteArray) ++ T ++ ({ data := #[40] } : ByteArray) ++ key ++ ({ data := #[41] } : ByteArray)).toList) = true)
    (hR0 : 3 ≤ R.size) (hR1 : R.size ≤ 1048576) (hk : key.size ≤ 524288) (hto : to.size ≤ 524288) (ht : Tab w)
    (HCS : Hid (∀ W, Tab W → Calls Tryd.prog 6 #[.agg #[.int .u8 2, .int .i64 t, .string key, .string to, .int .i64 v, .bool true]] W fun e w' => e = .returned (.string S) ∧ Below W.heap.size W w'))
    (HCR : Hid (∀ W, Tab W → Calls Tryd.prog 6 #[.agg #[.int .u8 1, .int .i64 t, .string key, .string { data := #[] }, .int .i64 0, .bool false]] W fun e w' => e = .returned (.string R) ∧ Below W.heap.size W w'))
    (HCT : Hid (∀ W, Tab W → Calls Tryd.prog 7 #[.int .i64 t] W fun e w' => e = .returned (.string T) ∧ Below W.heap.size W w')) :
    Calls Tryd.prog 3 #[.int .u8 2, .int .i64 t, .string key, .string to, .int .i64 v, .bool true] w fun e w' => e = .returned (.bool true) ∧ Below w.heap.size w w' := by
  have C0 := hideIt (Carry.start ht)
  clear ht
  have t1 : decide ((524288 : Int) < (key.size : Int)) = false := decide_eq_false (by omega)
  have t2 : decide ((524288 : Int) < (to.size : Int)) = false := decide_eq_false (by omega)
  go_enter Tryd.func3, Tryd.ntmps3
  go_wp2_with (go_at_call 5; refine (bytes5_any 2 t v key to true _ (by omega) (by omega)).mono ?_; rintro e w' ⟨bo, rfl, hbo, hw⟩; obtain rfl := hbo (by omega) (by omega); obtain rfl := hw.symm; clear hbo hw)
  refine Calls.mono (HCS.out _ (C0.out.alloc _).tab) ?_
  rintro e W1 ⟨rfl, hb1⟩
  have C1 := hideIt ((C0.out.alloc _).step hb1)
  clear hb1 C0 HCS
  go_wp2_with fail
  refine Calls.mono (HCR.out _ (C1.out.alloc _).tab) ?_
  rintro e W2 ⟨rfl, hb2⟩
  have C2 := hideIt ((C1.out.alloc _).step hb2)
  clear hb2 C1 HCR
  go_wp2_with fail
  refine Calls.mono (HCT.out _ C2.out.tab) ?_
  rintro e W3 ⟨rfl, hb3⟩
  have C3 := hideIt (C2.out.step hb3)
  clear hb3 C2 HCT
  go_wp2
  go_ret
  exact ⟨ret_bool (beq_of (by rw [HS.out, bytes_list, app_list, body_of HR.out]; simp [text, letter, tail])), C3.out.below⟩

set_option maxHeartbeats 1600000 in
theorem form_2v (t v : Int) (key to : ByteArray) (w : World) (S R T : ByteArray) (HT : Hid (T = bytes (itoa t))) (hT : T.size ≤ 21) (TV : ByteArray) (HTV : Hid (TV = bytes (itoa v))) (hTV : TV.size ≤ 21) (HCV : Hid (∀ W, Tab W → Calls Tryd.prog 7 #[.int .i64 v] W fun e w' => e = .returned (.string TV) ∧ Below W.heap.size W w'))
    (HS : Hid (S = bytes (text ⟨2, t, key.data.toList, to.data.toList, v, false⟩))) (HR : Hid (R.data.toList = 114 :: ((itoa t ++ 40 :: key.data.toList) ++ [41])))
    (hR : (R.toList == (({ data := #[114] } : ByteArray) ++ T ++ ({ data := #[40] } : ByteArray) ++ key ++ ({ data := #[41] } : ByteArray)).toList) = true)
    (hR0 : 3 ≤ R.size) (hR1 : R.size ≤ 1048576) (hk : key.size ≤ 524288) (hto : to.size ≤ 524288) (ht : Tab w)
    (HCS : Hid (∀ W, Tab W → Calls Tryd.prog 6 #[.agg #[.int .u8 2, .int .i64 t, .string key, .string to, .int .i64 v, .bool false]] W fun e w' => e = .returned (.string S) ∧ Below W.heap.size W w'))
    (HCR : Hid (∀ W, Tab W → Calls Tryd.prog 6 #[.agg #[.int .u8 1, .int .i64 t, .string key, .string { data := #[] }, .int .i64 0, .bool false]] W fun e w' => e = .returned (.string R) ∧ Below W.heap.size W w'))
    (HCT : Hid (∀ W, Tab W → Calls Tryd.prog 7 #[.int .i64 t] W fun e w' => e = .returned (.string T) ∧ Below W.heap.size W w')) :
    Calls Tryd.prog 3 #[.int .u8 2, .int .i64 t, .string key, .string to, .int .i64 v, .bool false] w fun e w' => e = .returned (.bool true) ∧ Below w.heap.size w w' := by
  have C0 := hideIt (Carry.start ht)
  clear ht
  have t1 : decide ((524288 : Int) < (key.size : Int)) = false := decide_eq_false (by omega)
  have t2 : decide ((524288 : Int) < (to.size : Int)) = false := decide_eq_false (by omega)
  go_enter Tryd.func3, Tryd.ntmps3
  go_wp2_with (go_at_call 5; refine (bytes5_any 2 t v key to false _ (by omega) (by omega)).mono ?_; rintro e w' ⟨bo, rfl, hbo, hw⟩; obtain rfl := hbo (by omega) (by omega); obtain rfl := hw.symm; clear hbo hw)
  refine Calls.mono (HCS.out _ (C0.out.alloc _).tab) ?_
  rintro e W1 ⟨rfl, hb1⟩
  have C1 := hideIt ((C0.out.alloc _).step hb1)
  clear hb1 C0 HCS
  go_wp2_with fail
  refine Calls.mono (HCR.out _ (C1.out.alloc _).tab) ?_
  rintro e W2 ⟨rfl, hb2⟩
  have C2 := hideIt ((C1.out.alloc _).step hb2)
  clear hb2 C1 HCR
  go_wp2_with fail
  refine Calls.mono (HCT.out _ C2.out.tab) ?_
  rintro e W3 ⟨rfl, hb3⟩
  have C3 := hideIt (C2.out.step hb3)
  clear hb3 C2 HCT
  go_wp2_with fail
  refine Calls.mono (HCV.out _ C3.out.tab) ?_
  rintro e W4 ⟨rfl, hb4⟩
  have C4 := hideIt (C3.out.step hb4)
  clear hb4 C3 HCV
  go_wp2
  go_ret
  exact ⟨ret_bool (beq_of (by rw [HS.out, HTV.out, bytes_list, app_list, app_list, app_list, app_list, bytes_list, open_of HR.out]; simp [text, letter, tail])), C4.out.below⟩

set_option maxHeartbeats 1600000 in
theorem form_3 (t v : Int) (key to : ByteArray) (nv : Bool) (w : World) (S R T : ByteArray) (HT : Hid (T = bytes (itoa t))) (hT : T.size ≤ 21)
    (HS : Hid (S = bytes (text ⟨3, t, key.data.toList, to.data.toList, v, nv⟩))) (HR : Hid (R.data.toList = 114 :: ((itoa t ++ 40 :: key.data.toList) ++ [41])))
    (hR : (R.toList == (({ data := #[114] } : ByteArray) ++ T ++ ({ data := #[40] } : ByteArray) ++ key ++ ({ data := #[41] } : ByteArray)).toList) = true)
    (hR0 : 3 ≤ R.size) (hR1 : R.size ≤ 1048576) (hk : key.size ≤ 524288) (hto : to.size ≤ 524288) (ht : Tab w)
    (HCS : Hid (∀ W, Tab W → Calls Tryd.prog 6 #[.agg #[.int .u8 3, .int .i64 t, .string key, .string to, .int .i64 v, .bool nv]] W fun e w' => e = .returned (.string S) ∧ Below W.heap.size W w'))
    (HCR : Hid (∀ W, Tab W → Calls Tryd.prog 6 #[.agg #[.int .u8 1, .int .i64 t, .string key, .string { data := #[] }, .int .i64 0, .bool false]] W fun e w' => e = .returned (.string R) ∧ Below W.heap.size W w'))
    (HCT : Hid (∀ W, Tab W → Calls Tryd.prog 7 #[.int .i64 t] W fun e w' => e = .returned (.string T) ∧ Below W.heap.size W w')) :
    Calls Tryd.prog 3 #[.int .u8 3, .int .i64 t, .string key, .string to, .int .i64 v, .bool nv] w fun e w' => e = .returned (.bool true) ∧ Below w.heap.size w w' := by
  have C0 := hideIt (Carry.start ht)
  clear ht
  have t1 : decide ((524288 : Int) < (key.size : Int)) = false := decide_eq_false (by omega)
  have t2 : decide ((524288 : Int) < (to.size : Int)) = false := decide_eq_false (by omega)
  go_enter Tryd.func3, Tryd.ntmps3
  go_wp2_with (go_at_call 5; refine (bytes5_any 3 t v key to nv _ (by omega) (by omega)).mono ?_; rintro e w' ⟨bo, rfl, hbo, hw⟩; obtain rfl := hbo (by omega) (by omega); obtain rfl := hw.symm; clear hbo hw)
  refine Calls.mono (HCS.out _ (C0.out.alloc _).tab) ?_
  rintro e W1 ⟨rfl, hb1⟩
  have C1 := hideIt ((C0.out.alloc _).step hb1)
  clear hb1 C0 HCS
  go_wp2_with fail
  refine Calls.mono (HCR.out _ (C1.out.alloc _).tab) ?_
  rintro e W2 ⟨rfl, hb2⟩
  have C2 := hideIt ((C1.out.alloc _).step hb2)
  clear hb2 C1 HCR
  go_wp2_with fail
  refine Calls.mono (HCT.out _ C2.out.tab) ?_
  rintro e W3 ⟨rfl, hb3⟩
  have C3 := hideIt (C2.out.step hb3)
  clear hb3 C2 HCT
  go_wp2
  go_ret
  exact ⟨ret_bool (beq_of (by rw [HS.out, HT.out, bytes_list, app_list, bytes_list]; simp [text, letter, tail])), C3.out.below⟩

set_option maxHeartbeats 1600000 in
theorem form_4 (t v : Int) (key to : ByteArray) (nv : Bool) (w : World) (S R T : ByteArray) (HT : Hid (T = bytes (itoa t))) (hT : T.size ≤ 21)
    (HS : Hid (S = bytes (text ⟨4, t, key.data.toList, to.data.toList, v, nv⟩))) (HR : Hid (R.data.toList = 114 :: ((itoa t ++ 40 :: key.data.toList) ++ [41])))
    (hR : (R.toList == (({ data := #[114] } : ByteArray) ++ T ++ ({ data := #[40] } : ByteArray) ++ key ++ ({ data := #[41] } : ByteArray)).toList) = true)
    (hR0 : 3 ≤ R.size) (hR1 : R.size ≤ 1048576) (hk : key.size ≤ 524288) (hto : to.size ≤ 524288) (ht : Tab w)
    (HCS : Hid (∀ W, Tab W → Calls Tryd.prog 6 #[.agg #[.int .u8 4, .int .i64 t, .string key, .string to, .int .i64 v, .bool nv]] W fun e w' => e = .returned (.string S) ∧ Below W.heap.size W w'))
    (HCR : Hid (∀ W, Tab W → Calls Tryd.prog 6 #[.agg #[.int .u8 1, .int .i64 t, .string key, .string { data := #[] }, .int .i64 0, .bool false]] W fun e w' => e = .returned (.string R) ∧ Below W.heap.size W w'))
    (HCT : Hid (∀ W, Tab W → Calls Tryd.prog 7 #[.int .i64 t] W fun e w' => e = .returned (.string T) ∧ Below W.heap.size W w')) :
    Calls Tryd.prog 3 #[.int .u8 4, .int .i64 t, .string key, .string to, .int .i64 v, .bool nv] w fun e w' => e = .returned (.bool true) ∧ Below w.heap.size w w' := by
  have C0 := hideIt (Carry.start ht)
  clear ht
  have t1 : decide ((524288 : Int) < (key.size : Int)) = false := decide_eq_false (by omega)
  have t2 : decide ((524288 : Int) < (to.size : Int)) = false := decide_eq_false (by omega)
  go_enter Tryd.func3, Tryd.ntmps3
  go_wp2_with (go_at_call 5; refine (bytes5_any 4 t v key to nv _ (by omega) (by omega)).mono ?_; rintro e w' ⟨bo, rfl, hbo, hw⟩; obtain rfl := hbo (by omega) (by omega); obtain rfl := hw.symm; clear hbo hw)
  refine Calls.mono (HCS.out _ (C0.out.alloc _).tab) ?_
  rintro e W1 ⟨rfl, hb1⟩
  have C1 := hideIt ((C0.out.alloc _).step hb1)
  clear hb1 C0 HCS
  go_wp2_with fail
  refine Calls.mono (HCR.out _ (C1.out.alloc _).tab) ?_
  rintro e W2 ⟨rfl, hb2⟩
  have C2 := hideIt ((C1.out.alloc _).step hb2)
  clear hb2 C1 HCR
  go_wp2_with fail
  refine Calls.mono (HCT.out _ C2.out.tab) ?_
  rintro e W3 ⟨rfl, hb3⟩
  have C3 := hideIt (C2.out.step hb3)
  clear hb3 C2 HCT
  go_wp2
  go_ret
  exact ⟨ret_bool (beq_of (by rw [HS.out, HT.out, bytes_list, app_list, bytes_list]; simp [text, letter, tail])), C3.out.below⟩

set_option maxHeartbeats 1600000 in
theorem form_5 (t v : Int) (key to : ByteArray) (nv : Bool) (w : World) (S R T : ByteArray) (HT : Hid (T = bytes (itoa t))) (hT : T.size ≤ 21)
    (HS : Hid (S = bytes (text ⟨5, t, key.data.toList, to.data.toList, v, nv⟩))) (HR : Hid (R.data.toList = 114 :: ((itoa t ++ 40 :: key.data.toList) ++ [41])))
    (hR : (R.toList == (({ data := #[114] } : ByteArray) ++ T ++ ({ data := #[40] } : ByteArray) ++ key ++ ({ data := #[41] } : ByteArray)).toList) = true)
    (hR0 : 3 ≤ R.size) (hR1 : R.size ≤ 1048576) (hk : key.size ≤ 524288) (hto : to.size ≤ 524288) (ht : Tab w)
    (HCS : Hid (∀ W, Tab W → Calls Tryd.prog 6 #[.agg #[.int .u8 5, .int .i64 t, .string key, .string to, .int .i64 v, .bool nv]] W fun e w' => e = .returned (.string S) ∧ Below W.heap.size W w'))
    (HCR : Hid (∀ W, Tab W → Calls Tryd.prog 6 #[.agg #[.int .u8 1, .int .i64 t, .string key, .string { data := #[] }, .int .i64 0, .bool false]] W fun e w' => e = .returned (.string R) ∧ Below W.heap.size W w'))
    (HCT : Hid (∀ W, Tab W → Calls Tryd.prog 7 #[.int .i64 t] W fun e w' => e = .returned (.string T) ∧ Below W.heap.size W w')) :
    Calls Tryd.prog 3 #[.int .u8 5, .int .i64 t, .string key, .string to, .int .i64 v, .bool nv] w fun e w' => e = .returned (.bool true) ∧ Below w.heap.size w w' := by
  have C0 := hideIt (Carry.start ht)
  clear ht
  have t1 : decide ((524288 : Int) < (key.size : Int)) = false := decide_eq_false (by omega)
  have t2 : decide ((524288 : Int) < (to.size : Int)) = false := decide_eq_false (by omega)
  go_enter Tryd.func3, Tryd.ntmps3
  go_wp2_with (go_at_call 5; refine (bytes5_any 5 t v key to nv _ (by omega) (by omega)).mono ?_; rintro e w' ⟨bo, rfl, hbo, hw⟩; obtain rfl := hbo (by omega) (by omega); obtain rfl := hw.symm; clear hbo hw)
  refine Calls.mono (HCS.out _ (C0.out.alloc _).tab) ?_
  rintro e W1 ⟨rfl, hb1⟩
  have C1 := hideIt ((C0.out.alloc _).step hb1)
  clear hb1 C0 HCS
  go_wp2_with fail
  refine Calls.mono (HCR.out _ (C1.out.alloc _).tab) ?_
  rintro e W2 ⟨rfl, hb2⟩
  have C2 := hideIt ((C1.out.alloc _).step hb2)
  clear hb2 C1 HCR
  go_wp2_with fail
  refine Calls.mono (HCT.out _ C2.out.tab) ?_
  rintro e W3 ⟨rfl, hb3⟩
  have C3 := hideIt (C2.out.step hb3)
  clear hb3 C2 HCT
  go_wp2
  go_ret
  exact ⟨ret_bool (beq_of (by rw [HS.out, bytes_list, app_list, body_of HR.out]; simp [text, letter, tail])), C3.out.below⟩

set_option maxHeartbeats 1600000 in
theorem form_6 (t v : Int) (key to : ByteArray) (nv : Bool) (w : World) (S R T : ByteArray) (HT : Hid (T = bytes (itoa t))) (hT : T.size ≤ 21)
    (HS : Hid (S = bytes (text ⟨6, t, key.data.toList, to.data.toList, v, nv⟩))) (HR : Hid (R.data.toList = 114 :: ((itoa t ++ 40 :: key.data.toList) ++ [41])))
    (hR : (R.toList == (({ data := #[114] } : ByteArray) ++ T ++ ({ data := #[40] } : ByteArray) ++ key ++ ({ data := #[41] } : ByteArray)).toList) = true)
    (hR0 : 3 ≤ R.size) (hR1 : R.size ≤ 1048576) (hk : key.size ≤ 524288) (hto : to.size ≤ 524288) (ht : Tab w)
    (HCS : Hid (∀ W, Tab W → Calls Tryd.prog 6 #[.agg #[.int .u8 6, .int .i64 t, .string key, .string to, .int .i64 v, .bool nv]] W fun e w' => e = .returned (.string S) ∧ Below W.heap.size W w'))
    (HCR : Hid (∀ W, Tab W → Calls Tryd.prog 6 #[.agg #[.int .u8 1, .int .i64 t, .string key, .string { data := #[] }, .int .i64 0, .bool false]] W fun e w' => e = .returned (.string R) ∧ Below W.heap.size W w'))
    (HCT : Hid (∀ W, Tab W → Calls Tryd.prog 7 #[.int .i64 t] W fun e w' => e = .returned (.string T) ∧ Below W.heap.size W w')) :
    Calls Tryd.prog 3 #[.int .u8 6, .int .i64 t, .string key, .string to, .int .i64 v, .bool nv] w fun e w' => e = .returned (.bool true) ∧ Below w.heap.size w w' := by
  have C0 := hideIt (Carry.start ht)
  clear ht
  have t1 : decide ((524288 : Int) < (key.size : Int)) = false := decide_eq_false (by omega)
  have t2 : decide ((524288 : Int) < (to.size : Int)) = false := decide_eq_false (by omega)
  go_enter Tryd.func3, Tryd.ntmps3
  go_wp2_with (go_at_call 5; refine (bytes5_any 6 t v key to nv _ (by omega) (by omega)).mono ?_; rintro e w' ⟨bo, rfl, hbo, hw⟩; obtain rfl := hbo (by omega) (by omega); obtain rfl := hw.symm; clear hbo hw)
  refine Calls.mono (HCS.out _ (C0.out.alloc _).tab) ?_
  rintro e W1 ⟨rfl, hb1⟩
  have C1 := hideIt ((C0.out.alloc _).step hb1)
  clear hb1 C0 HCS
  go_wp2_with fail
  refine Calls.mono (HCR.out _ (C1.out.alloc _).tab) ?_
  rintro e W2 ⟨rfl, hb2⟩
  have C2 := hideIt ((C1.out.alloc _).step hb2)
  clear hb2 C1 HCR
  go_wp2_with fail
  refine Calls.mono (HCT.out _ C2.out.tab) ?_
  rintro e W3 ⟨rfl, hb3⟩
  have C3 := hideIt (C2.out.step hb3)
  clear hb3 C2 HCT
  go_wp2
  go_ret
  exact ⟨ret_bool (beq_of (by rw [HS.out, bytes_list, app_list, app_list, app_list, app_list, open_of HR.out]; simp [text, letter, tail])), C3.out.below⟩


/-- THE MAIN ROAD, whatever the kind. -/
theorem form_any (k t v : Int) (key to : ByteArray) (nv : Bool) (w : World) (hk0 : 0 ≤ k) (hk6 : k ≤ 6) (ht0 : -9223372036854775808 ≤ t) (ht1 : t ≤ 9223372036854775807) (hv0 : -9223372036854775808 ≤ v) (hv1 : v ≤ 9223372036854775807)
    (hk : key.size ≤ 524288) (hto : to.size ≤ 524288) (ht : Tab w) :
    Calls Tryd.prog 3 #[.int .u8 k, .int .i64 t, .string key, .string to, .int .i64 v, .bool nv] w fun e w' => e = .returned (.bool true) ∧ Below w.heap.size w w' := by
  have z1 : (bytes (itoa t)).size ≤ 21 := by rw [bytes_size]; exact itoa_len ht0 ht1
  have z2 : (bytes (itoa v)).size ≤ 21 := by rw [bytes_size]; exact itoa_len hv0 hv1
  have hrl : (bytes (text ⟨1, t, key.data.toList, [], 0, false⟩)).data.toList = 114 :: ((itoa t ++ 40 :: key.data.toList) ++ [41]) := by
    rw [bytes_list]; simp [text, letter, tail]
  have hrs : (bytes (text ⟨1, t, key.data.toList, [], 0, false⟩)).size = (itoa t).length + key.size + 3 := by
    have := congrArg List.length hrl
    simp at this
    have e : key.size = key.data.size := rfl
    have e2 : (bytes (text ⟨1, t, key.data.toList, [], 0, false⟩)).size = (bytes (text ⟨1, t, key.data.toList, [], 0, false⟩)).data.size := rfl
    omega
  have z1' := itoa_len ht0 ht1
  have HCS := hideIt (fun W h => string_any k t v key to nv W hk0 hk6 ht0 ht1 hv0 hv1 (by omega) (by omega) h)
  have HCR := hideIt (fun W h => string_any 1 t 0 key { data := #[] } false W (by decide) (by decide) ht0 ht1 (by decide) (by decide) (by omega) (by decide) h)
  have HCT := hideIt (fun W (_ : Tab W) => itoa64_any t W ht0 ht1)
  have HCV := hideIt (fun W (_ : Tab W) => itoa64_any v W hv0 hv1)
  have hR := beq_of (a := bytes (text ⟨1, t, key.data.toList, [], 0, false⟩)) (b := ({ data := #[114] } : ByteArray) ++ bytes (itoa t) ++ ({ data := #[40] } : ByteArray) ++ key ++ ({ data := #[41] } : ByteArray)) (by
    rw [hrl, app_list, app_list, app_list, app_list, bytes_list]; simp)
  have c : k = 0 ∨ k = 1 ∨ k = 2 ∨ k = 3 ∨ k = 4 ∨ k = 5 ∨ k = 6 := by omega
  rcases c with rfl | rfl | rfl | rfl | rfl | rfl | rfl
  · exact form_0 t v key to nv w _ _ _ (hideIt rfl) z1 (hideIt rfl) (hideIt hrl) hR (by omega) (by omega) hk hto ht HCS HCR HCT
  · exact form_1 t v key to nv w _ _ _ (hideIt rfl) z1 (hideIt rfl) (hideIt hrl) hR (by omega) (by omega) hk hto ht HCS HCR HCT
  · cases nv
    · exact form_2v t v key to w _ _ _ (hideIt rfl) z1 _ (hideIt rfl) z2 HCV (hideIt rfl) (hideIt hrl) hR (by omega) (by omega) hk hto ht HCS HCR HCT
    · exact form_2n t v key to w _ _ _ (hideIt rfl) z1 (hideIt rfl) (hideIt hrl) hR (by omega) (by omega) hk hto ht HCS HCR HCT
  · exact form_3 t v key to nv w _ _ _ (hideIt rfl) z1 (hideIt rfl) (hideIt hrl) hR (by omega) (by omega) hk hto ht HCS HCR HCT
  · exact form_4 t v key to nv w _ _ _ (hideIt rfl) z1 (hideIt rfl) (hideIt hrl) hR (by omega) (by omega) hk hto ht HCS HCR HCT
  · exact form_5 t v key to nv w _ _ _ (hideIt rfl) z1 (hideIt rfl) (hideIt hrl) hR (by omega) (by omega) hk hto ht HCS HCR HCT
  · exact form_6 t v key to nv w _ _ _ (hideIt rfl) z1 (hideIt rfl) (hideIt hrl) hR (by omega) (by omega) hk hto ht HCS HCR HCT
end Go.Proofs.Qxb6627473aDoor
