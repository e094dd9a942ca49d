/-
  FnDigitsOneByteAnyPlace, its main road: the walk.
-/
import Derived.Test.Qxb6627425aOne
namespace Go.Proofs.Qxb6627425a
open Go.RowKit

theorem info5 : (Try.prog.info? 5).map (fun i => (i.zero, i.size, i.bytes)) = some (some (.int .u8 0), 1, 1) := by kernel_rfl
theorem hideIt {p : Prop} (h : p) : Hid p := h

/-- The row of buf with its first q cells filled. -/
def part (xs : List Int) (q j : Nat) : Value := .int .u8 (if j < q then xs.getD j 0 else 0)

theorem part_set {w : World} {b n : Nat} {xs : List Int} {q : Nat} (h : w.rowIs b 5 n (part xs q)) (v : Int) (hv : xs.getD q 0 = v) : (w.setCell ⟨b, q, none⟩ (.int .u8 v)).rowIs b 5 n (part xs (q + 1)) := by
  refine (h.set q (.int .u8 v)).congr fun i _ => ?_
  unfold part
  by_cases e : i = q
  · subst e; rw [if_pos rfl, if_pos (Nat.lt_succ_self _), hv]
  · simp only [if_neg e]
    by_cases h1 : i < q
    · rw [if_pos h1, if_pos (by omega)]
    · rw [if_neg h1, if_neg (by omega)]

set_option maxHeartbeats 1600000 in
theorem core4 (s S1 S2 : ByteArray) (xs : List Int) (p : Nat) (c : Int) (d1 d2 d : Bool) (w : World) (hs : s.size ≤ 1048576) (hp : p ≤ s.size) (h0 : 0 ≤ c) (h1 : c ≤ 255)
    (HX : Hid (xs.length = s.size + 1)) (HL : Hid (∀ k (h : k < p), xs.getD k 0 = ((s[k]'(by omega)).toNat : Int))) (HM : Hid (xs.getD p 0 = c)) (HH : Hid (∀ k (_ : p ≤ k) (h : k < s.size), xs.getD (k + 1) 0 = (s[k].toNat : Int)))
    (HS1 : Hid (S1 = strOfNums [c])) (HS2 : Hid (S2 = strOfNums xs))
    (HZ1 : Hid (∀ w, Calls Try.prog 7 #[.string S1] w fun e w' => e = .returned (.bool d1) ∧ w' = w))
    (HZ2 : Hid (∀ w, Calls Try.prog 7 #[.string S2] w fun e w' => e = .returned (.bool d2) ∧ w' = w))
    (HZ : Hid (∀ w, Calls Try.prog 7 #[.string s] w fun e w' => e = .returned (.bool d) ∧ w' = w))
    (hcase : (48 ≤ c ∧ c ≤ 57 ∧ d1 = true ∧ d2 = true ∧ s.toList.isEmpty = true) ∨ (48 ≤ c ∧ c ≤ 57 ∧ d1 = true ∧ d2 = d ∧ s.toList.isEmpty = false) ∨ (c < 48 ∧ d1 = false ∧ d2 = false) ∨ (57 < c ∧ 48 ≤ c ∧ d1 = false ∧ d2 = false)) :
    Calls Try.prog 4 #[.string s, .int .i64 p, .int .u8 c] w fun e w' => e = .returned (.bool true) ∧ Below w.heap.size w w' := by
  have hmk1 : ∀ w : World, (Instr.makeSlice 27 (.int .i64 1) (.int .i64 1)).run Try.prog w = .ok (.slice (some ⟨w.heap.size, 0, none⟩) 1 1) (w.alloc (.cells #[.int .u8 0] 5)) := fun _ => by kernel_rfl
  have hmk2 : ∀ w : World, (Instr.makeSlice 27 (.int .i64 ((s.size : Int) + 1)) (.int .i64 ((s.size : Int) + 1))).run Try.prog w = .ok (.slice (some ⟨w.heap.size, 0, none⟩) (s.size + 1) (s.size + 1)) (w.alloc (.cells (madeCells #[.int .u8 0] (s.size + 1)) 5)) := fun w => by
    have := run_make_row' (P := Try.prog) 27 5 (.int .u8 0) 1 Try.underlying27 info5 rfl .i64 .i64 (s.size + 1) (by omega) (by omega) w
    rwa [show ((s.size + 1 : Nat) : Int) = (s.size : Int) + 1 by omega] at this
  have t1 : decide ((1048576 : Int) < (s.size : Int)) = false := decide_eq_false (by omega)
  have t2 : decide ((p : Int) < 0) = false := decide_eq_false (by omega)
  have t3 : decide (s.size < p) = false := decide_eq_false (by omega)
  rcases hcase with ⟨k1, k2, rfl, rfl, he⟩ | ⟨k1, k2, rfl, rfl, he⟩ | ⟨k1, rfl, rfl⟩ | ⟨k1, k2, rfl, rfl⟩
  all_goals
    go_enter Try.func4, Try.ntmps4
    go_wp2_with (go_at_call 8; refine (bytes8_any s p c _ (by omega)).mono ?_; rintro e w' ⟨bo, rfl, hbo, hw⟩; obtain rfl := hbo (by omega); obtain rfl := hw.symm)
    go_loopw [10] (fun i wr => ∃ q : Nat, q ≤ p ∧ i = .int .i64 q ∧ wr.rowIs (w.heap.size + 1) 5 (s.size + 1) (part xs q) ∧ wr.rowIs w.heap.size 5 1 (fun _ => .int .u8 c) ∧ Below w.heap.size w wr) (fun i _ => p - (intOf i).toNat)
    case atStart =>
      refine ⟨0, Nat.zero_le _, rfl, ?_, ?_, ((Below.refl _ _).alloc (Nat.le_refl _) _).alloc (by simp) _⟩
      · have := World.rowIs_made (w.alloc (.cells #[.int .u8 c] 5)) (.int .u8 0) (s.size + 1) 5
        rw [show (w.alloc (.cells #[.int .u8 c] 5)).heap.size = w.heap.size + 1 by simp] at this
        exact this.congr fun i _ => by unfold part; simp
      · exact (World.rowIs_alloc w #[.int .u8 c] 5 (fun _ => .int .u8 c) (fun i hi => by simp at hi; subst hi; rfl)).alloc _
    case round =>
      obtain ⟨q, hq, rfl, hrow, hone, hbel⟩ := hrel
      by_cases hlt : q < p
      · have hc1 := hrow.cell (i := q) (by omega)
        unfold part at hc1
        rw [if_neg (Nat.lt_irrefl q)] at hc1
        have hf1 := hrow.frozen q
        have HP := hideIt (part_set hrow _ (HL.out q hlt))
        go_wp2
        go_roundw
        case rel => exact ⟨q + 1, by omega, by go_num, HP.out, hone.setOther (by simp) _, hbel.setCell (by simp) _⟩
        case measure => simp [intOf]; omega
      · obtain rfl : q = p := by omega
        have hc1 := hrow.cell (i := q) (by omega)
        unfold part at hc1
        rw [if_neg (Nat.lt_irrefl q)] at hc1
        have hf1 := hrow.frozen q
        have HP := hideIt (part_set hrow _ HM.out)
        go_wp2
        go_loopw [11] (fun i wr => ∃ r : Nat, q ≤ r ∧ r ≤ s.size ∧ i = .int .i64 r ∧ wr.rowIs (w.heap.size + 1) 5 (s.size + 1) (part xs (r + 1)) ∧ wr.rowIs w.heap.size 5 1 (fun _ => .int .u8 c) ∧ Below w.heap.size w wr) (fun i _ => s.size - (intOf i).toNat)
        case atStart => exact ⟨q, Nat.le_refl _, hp, rfl, HP.out, hone.setOther (by simp) _, hbel.setCell (by simp) _⟩
        case round =>
          clear hc1 hf1 HP hrow hone hbel
          obtain ⟨r, hr0, hr, rfl, hrow, hone, hbel⟩ := hrel
          by_cases hlt2 : r < s.size
          · have hc1 := hrow.cell (i := r + 1) (by omega)
            unfold part at hc1
            rw [if_neg (Nat.lt_irrefl (r + 1))] at hc1
            have hf1 := hrow.frozen (r + 1)
            have HP := hideIt (part_set hrow _ (HH.out r hr0 hlt2))
            go_wp2
            go_roundw
            case rel => exact ⟨r + 1, by omega, by omega, by go_num, HP.out, hone.setOther (by simp) _, hbel.setCell (by simp) _⟩
            case measure => simp [intOf]; omega
          · obtain rfl : r = s.size := by omega
            have hcv1 := run_convert_bytes_arg (P := Try.prog) wr 27 5 Try.underlying27 Try.underlying5 w.heap.size 0 1 1 [c] rfl (fun i hi => by
              rw [Nat.zero_add, hone.cell hi]
              obtain rfl : i = 0 := by omega
              rfl) 9 Try.underlying9
            have hcv2 := run_convert_bytes_arg (P := Try.prog) wr 27 5 Try.underlying27 Try.underlying5 (w.heap.size + 1) 0 (s.size + 1) (s.size + 1) xs HX.out (fun i hi => by
              rw [Nat.zero_add, hrow.cell hi]
              unfold part
              rw [if_pos hi]) 9 Try.underlying9
            rw [← HS1.out] at hcv1
            rw [← HS2.out] at hcv2
            clear hrow hone
            go_wp2_with (first
              | (go_at_call_of 7 S1; refine Calls.mono (HZ1.out _) ?_; rintro e w' ⟨rfl, rfl⟩)
              | (go_at_call_of 7 S2; refine Calls.mono (HZ2.out _) ?_; rintro e w' ⟨rfl, rfl⟩)
              | (go_at_call_of 7 s; refine Calls.mono (HZ.out _) ?_; rintro e w' ⟨rfl, rfl⟩))
            go_ret
            exact ⟨rfl, hbel⟩
end Go.Proofs.Qxb6627425a
