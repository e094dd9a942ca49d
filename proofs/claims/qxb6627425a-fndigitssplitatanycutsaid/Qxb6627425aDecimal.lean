/-
  zzDecimal: some text of one to twenty decimal digits.
-/
import Derived.Test.Qxb6627425aOneWalk
namespace Go.Proofs.Qxb6627425a
open Go.RowKit

theorem decimal_zero (w : World) :
    Calls Try.prog 6 #[.int .u64 0] w fun e w' => ∃ D : ByteArray, e = .returned (.string D) ∧ D.size ≤ 20 ∧ digB D.data.toList = true ∧ Below w.heap.size w w' := by
  go_enter Try.func6, Try.ntmps6
  go_wp2
  go_ret
  exact ⟨_, rfl, by decide, by decide, Below.refl _ _⟩

theorem len28 : Try.prog.arrayLen 28 = 20 := by kernel_rfl
theorem elem28 : Try.prog.elem 28 = 5 := by kernel_rfl
theorem arr28 : Try.prog.underlying 28 = some (.array (Try.prog.arrayLen 28) (Try.prog.elem 28)) := by kernel_rfl
/-- 'buf[q:]' of the array of twenty bytes. -/
theorem run_tail (b q : Nat) (hq : q < 20) (w : World) : (Instr.sliceAt 28 (.pointer (some ⟨b, 0, none⟩)) (some (.int .i64 (q : Int))) none none).run Try.prog w = .ok (.slice (some ⟨b, q, none⟩) (20 - q) (20 - q)) w := by
  rw [run_sliceAt_array_l w 28 ⟨b, 0, none⟩ arr28 .i64 (q : Int) (by omega) (by rw [len28]; omega), len28, elem28, Try.sizeOf5]
  have hne : ¬ 20 = q := by omega
  simp [Result.andThen, slicedAt, Addr.add, hne]
  exact fun h => h.symm

theorem lt_top {m : Int} (h : m ≤ 18446744073709551615) : m < 10 ^ 20 := by
  have : (10 : Int) ^ 20 = 100000000000000000000 := by decide
  rw [this]; omega

theorem lt_div {v : Int} {r : Nat} (h : v < 10 ^ (r + 1)) : v / 10 < 10 ^ r := by
  rw [Int.pow_succ] at h
  omega

theorem zeros20 : ∀ i, i < (#[Value.int .u8 0, .int .u8 0, .int .u8 0, .int .u8 0, .int .u8 0, .int .u8 0, .int .u8 0, .int .u8 0, .int .u8 0, .int .u8 0, .int .u8 0, .int .u8 0, .int .u8 0, .int .u8 0, .int .u8 0, .int .u8 0, .int .u8 0, .int .u8 0, .int .u8 0, .int .u8 0] : Array Value).size →
    (#[Value.int .u8 0, .int .u8 0, .int .u8 0, .int .u8 0, .int .u8 0, .int .u8 0, .int .u8 0, .int .u8 0, .int .u8 0, .int .u8 0, .int .u8 0, .int .u8 0, .int .u8 0, .int .u8 0, .int .u8 0, .int .u8 0, .int .u8 0, .int .u8 0, .int .u8 0, .int .u8 0] : Array Value)[i]? = some (.int .u8 0) := by
  intro i hi
  have hi : i < 20 := hi
  rcases i with _ | _ | _ | _ | _ | _ | _ | _ | _ | _ | _ | _ | _ | _ | _ | _ | _ | _ | _ | _ | i
  all_goals first | rfl | omega

/-- From place q on the twenty cells are digits: the text is accepted. -/
theorem dig_run (g : Nat → Int) (q : Nat) (hq : q < 20) (h : ∀ j, q ≤ j → j < 20 → 48 ≤ g j ∧ g j ≤ 57) : digB (strOfNums ((List.range (20 - q)).map fun i => g (q + i))).data.toList = true := by
  have hm : ∀ n ∈ (List.range (20 - q)).map (fun i => g (q + i)), 48 ≤ n ∧ n ≤ 57 := by
    intro n hn
    obtain ⟨i, hi, rfl⟩ := List.mem_map.1 hn
    have := List.mem_range.1 hi
    exact h (q + i) (by omega) (by omega)
  unfold digB
  rw [all_nums _ (fun n hn => by have := hm n hn; omega), strOfNums_data]
  have e : ((List.range (20 - q)).map (fun i => g (q + i))).all dI = true := by
    rw [List.all_eq_true]
    intro n hn
    have := hm n hn
    simp [dI, this.1, this.2]
  rw [e]
  simp
  omega

set_option maxHeartbeats 800000 in
theorem decimal_pos (m : Int) (w : World) (h0 : 0 < m) (h1 : m ≤ 18446744073709551615) :
    Calls Try.prog 6 #[.int .u64 m] w fun e w' => ∃ D : ByteArray, e = .returned (.string D) ∧ D.size ≤ 20 ∧ digB D.data.toList = true ∧ Below w.heap.size w w' := by
  have hne : (m == 0) = false := by simp; omega
  go_enter Try.func6, Try.ntmps6
  go_wp2
  go_loopw [0, 4] (fun n k wr => ∃ (v : Int) (q : Nat) (g : Nat → Int), n = .int .u64 v ∧ k = .int .i64 q ∧ q ≤ 20 ∧ 0 ≤ v ∧ v ≤ 18446744073709551615 ∧ Hid (v < 10 ^ q) ∧ Hid (v = 0 → q < 20) ∧ Hid (∀ j, q ≤ j → j < 20 → 48 ≤ g j ∧ g j ≤ 57) ∧ wr.rowIs w.heap.size 28 20 (fun j => .int .u8 (g j)) ∧ Below w.heap.size w wr) (fun _ k _ => (intOf k).toNat)
  case atStart =>
    refine ⟨m, 20, fun _ => 0, rfl, rfl, Nat.le_refl _, by omega, h1, lt_top h1, fun e => by omega, fun j h h' => by omega, ?_, (Below.refl _ _).alloc (Nat.le_refl _) _⟩
    exact World.rowIs_alloc w _ 28 (fun _ => .int .u8 0) zeros20
  case round =>
    obtain ⟨v, q, g, rfl, rfl, hq, hv0, hv1, HT, HN, HG, hrow, hbel⟩ := hrel
    by_cases hz : v = 0
    · subst hz
      have hq1 := HN.out rfl
      have hcv := run_convert_bytes_arg (P := Try.prog) wr 27 5 Try.underlying27 Try.underlying5 w.heap.size q (20 - q) (20 - q) ((List.range (20 - q)).map fun i => g (q + i)) (by simp) (fun i hi => by
        rw [hrow.cell (by omega), List.getD_eq_getElem?_getD, List.getElem?_map, List.getElem?_range hi]; rfl) 9 Try.underlying9
      have hsl := run_tail w.heap.size q hq1 wr
      have HD := hideIt (dig_run g q hq1 HG.out)
      clear hrow HT HN HG
      go_wp2
      go_ret
      exact ⟨_, rfl, by rw [strOfNums_size]; simp, HD.out, hbel⟩
    · have hv' : 0 < v := by omega
      have hq0 : 0 < q := by
        rcases q with _ | q
        · have := HT.out; simp at this; omega
        · omega
      clear hz
      obtain ⟨r, rfl⟩ : ∃ r, q = r + 1 := ⟨q - 1, by omega⟩
      have hc1 := hrow.cell (i := r) (by omega)
      have hf1 := hrow.frozen r
      have HT' := hideIt (lt_div HT.out)
      have HR := hideIt (hrow.set r (.int .u8 (48 + v % 10)))
      go_wp2
      go_roundw
      case rel =>
        refine ⟨v / 10, r, fun j => if j = r then 48 + v % 10 else g j, rfl, rfl, by omega, by omega, by omega, HT', fun _ => by omega, fun j h h' => ?_, HR.out.congr fun j _ => ?_, hbel.setCell (Nat.le_refl _) _⟩
        · by_cases e : j = r
          · simp only [if_pos e]; omega
          · simp only [if_neg e]; exact HG.out j (by omega) h'
        · by_cases e : j = r
          · simp only [if_pos e]
          · simp only [if_neg e]
      case measure => simp [intOf]

theorem decimal_any (m : Int) (w : World) (h0 : 0 ≤ m) (h1 : m ≤ 18446744073709551615) :
    Calls Try.prog 6 #[.int .u64 m] w fun e w' => ∃ D : ByteArray, e = .returned (.string D) ∧ D.size ≤ 20 ∧ digB D.data.toList = true ∧ Below w.heap.size w w' := by
  by_cases h : m = 0
  · subst h; exact decimal_zero w
  · exact decimal_pos m w (by omega) h1
end Go.Proofs.Qxb6627425a
