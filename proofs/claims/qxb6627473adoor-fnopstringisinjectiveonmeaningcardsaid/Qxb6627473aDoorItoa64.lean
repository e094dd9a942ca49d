/-
  zzNotB1Itoa64: the decimal numeral.
-/
import Derived.Test.Qxb6627473aDoorString
import Derived.Deep.OwnRows
import Derived.Laws.BytesArg
namespace Go.Proofs.Qxb6627473aDoor
open Go.RowKit
open Go.Lib (decDigits itoa)
set_option linter.unusedVariables false

theorem len33 : Tryd.prog.arrayLen 33 = 20 := by kernel_rfl
theorem elem33 : Tryd.prog.elem 33 = 5 := by kernel_rfl
theorem arr33 : Tryd.prog.underlying 33 = some (.array (Tryd.prog.arrayLen 33) (Tryd.prog.elem 33)) := by kernel_rfl
/-- 'buf[q:]' of the array of twenty bytes. -/
theorem run_tail (b q : Nat) (hq : q < 20) (w : World) : (Instr.sliceAt 33 (.pointer (some ⟨b, 0, none⟩)) (some (.int .i64 (q : Int))) none none).run Tryd.prog w = .ok (.slice (some ⟨b, q, none⟩) (20 - q) (20 - q)) w := by
  rw [run_sliceAt_array_l w 33 ⟨b, 0, none⟩ arr33 .i64 (q : Int) (by omega) (by rw [len33]; omega), len33, elem33, Tryd.sizeOf5]
  have hne : ¬ 20 = q := by omega
  simp [Result.andThen, slicedAt, Addr.add, hne]
  exact fun h => h.symm

theorem lt_top {m : Int} (h : m ≤ 18446744073709551615) : m < 10 ^ 20 := by
  have : (10 : Int) ^ 20 = 100000000000000000000 := by decide
  rw [this]; omega

theorem lt_div {v : Int} {r : Nat} (h : v < 10 ^ (r + 1)) : v / 10 < 10 ^ r := by
  rw [Int.pow_succ] at h
  omega

theorem zeros20 : ∀ i, i < (#[.int .u8 0, .int .u8 0, .int .u8 0, .int .u8 0, .int .u8 0, .int .u8 0, .int .u8 0, .int .u8 0, .int .u8 0, .int .u8 0, .int .u8 0, .int .u8 0, .int .u8 0, .int .u8 0, .int .u8 0, .int .u8 0, .int .u8 0, .int .u8 0, .int .u8 0, .int .u8 0] : Array Value).size → (#[.int .u8 0, .int .u8 0, .int .u8 0, .int .u8 0, .int .u8 0, .int .u8 0, .int .u8 0, .int .u8 0, .int .u8 0, .int .u8 0, .int .u8 0, .int .u8 0, .int .u8 0, .int .u8 0, .int .u8 0, .int .u8 0, .int .u8 0, .int .u8 0, .int .u8 0, .int .u8 0] : Array Value)[i]? = some (.int .u8 0) := by
  intro i hi
  have hi : i < 20 := hi
  rcases i with _ | _ | _ | _ | _ | _ | _ | _ | _ | _ | _ | _ | _ | _ | _ | _ | _ | _ | _ | _ | i
  all_goals first | rfl | omega

/-- The bytes that lie from place q on. -/
def run (g : Nat → Int) (q : Nat) : List Int := (List.range (20 - q)).map fun i => g (q + i)
def setAt (g : Nat → Int) (r : Nat) (x : Int) : Nat → Int := fun j => if j = r then x else g j

theorem run_len (g : Nat → Int) (q : Nat) : (run g q).length = 20 - q := by simp [run]
theorem run_at (g : Nat → Int) (q i : Nat) (hi : i < 20 - q) : (run g q).getD i 0 = g (q + i) := by
  unfold run
  rw [List.getD_eq_getElem?_getD, List.getElem?_map, List.getElem?_range hi]; rfl

theorem run_set (g : Nat → Int) (r : Nat) (x : Int) (hr : r < 20) : run (setAt g r x) r = x :: run g (r + 1) := by
  unfold run
  rw [show 20 - r = (20 - (r + 1)) + 1 by omega, List.range_succ_eq_map, List.map_cons, List.map_map]
  congr 1
  · simp [setAt]
  · apply List.map_congr_left
    intro i _
    simp only [Function.comp_apply, setAt]
    rw [if_neg (by omega), show r + (i + 1) = r + 1 + i by omega]

def txt (xs : List Int) : List UInt8 := xs.map fun n => UInt8.ofNat n.toNat

theorem dec_step {U m : Int} (h0 : 10 ≤ m) {g : Nat → Int} {r : Nat} (hr : r < 20) (h : decDigits U.toNat = decDigits m.toNat ++ txt (run g (r + 1))) :
    decDigits U.toNat = decDigits (m / 10).toNat ++ txt (run (setAt g r (48 + m % 10)) r) := by
  rw [h, dec_big (by omega), run_set g r _ hr]
  have e1 : (m / 10).toNat = m.toNat / 10 := by omega
  have e2 : (48 + m % 10).toNat = 48 + m.toNat % 10 := by omega
  simp [txt, e1, e2]

theorem dec_last {U m : Int} (h0 : 0 ≤ m) (h1 : m < 10) {g : Nat → Int} {r : Nat} (hr : r < 20) (h : decDigits U.toNat = decDigits m.toNat ++ txt (run g (r + 1))) :
    decDigits U.toNat = txt (run (setAt g r (48 + m % 10)) r) := by
  rw [h, dec_small (by omega), run_set g r _ hr]
  have e2 : (48 + m % 10).toNat = 48 + m.toNat := by omega
  simp [txt, e2]

theorem wrap_neg {v : Int} (h0 : -9223372036854775808 ≤ v) (h1 : v < 0) : IntKind.u64.wrap (-IntKind.u64.wrap v) = -v := by
  have e : ∀ x : Int, IntKind.u64.wrap x = x % 18446744073709551616 := fun x => by
    simp only [IntKind.wrap, IntKind.signed, IntKind.bits, Bool.false_and, Bool.false_eq_true, if_false]
    rfl
  rw [e, e]
  omega

theorem itoa_minus {U v : Int} (h : U = -v) (h1 : v < 0) : itoa v = 45 :: decDigits U.toNat := by
  unfold itoa
  rw [if_pos h1, h, show v.natAbs = (-v).toNat by omega]
theorem itoa_plus {U v : Int} (h : U = v) (h1 : 0 ≤ v) : itoa v = decDigits U.toNat := by
  unfold itoa
  rw [if_neg (by omega), h]

set_option maxHeartbeats 1600000 in
theorem itoa64_neg (v : Int) (w : World) (h0 : -9223372036854775808 ≤ v) (h1 : v < 0) :
    Calls Tryd.prog 7 #[.int .i64 v] w fun e w' => e = .returned (.string (bytes (itoa v))) ∧ Below w.heap.size w w' := by
  obtain ⟨x, hx⟩ : ∃ x, x = IntKind.u64.wrap v := ⟨_, rfl⟩
  obtain ⟨U, hU⟩ : ∃ U, U = -v := ⟨_, rfl⟩
  have hx2 : IntKind.u64.wrap (-x) = U := by rw [hx, hU]; exact wrap_neg h0 h1
  have hu0 : 0 < U := by omega
  have hu1 : U ≤ 18446744073709551615 := by omega
  have HU := hideIt hU
  have hx' := hx.symm
  clear hx hU
  go_enter Tryd.func7, Tryd.ntmps7
  go_wp2
  go_loopw [3, 5] (fun n k wr => ∃ (m : Int) (q : Nat) (g : Nat → Int), n = .int .u64 m ∧ k = .int .i64 q ∧ q ≤ 20 ∧ 0 ≤ m ∧ m ≤ 18446744073709551615 ∧ Hid (m < 10 ^ q) ∧ Hid (q = 20 ∨ 0 < m) ∧ Hid (decDigits U.toNat = decDigits m.toNat ++ txt (run g q)) ∧ wr.rowIs w.heap.size 33 20 (fun j => .int .u8 (g j)) ∧ Below w.heap.size w wr) (fun _ k _ => (intOf k).toNat)
  case atStart =>
    refine ⟨U, 20, fun _ => 0, rfl, rfl, Nat.le_refl _, by omega, by omega, lt_top (by omega), .inl rfl, ?_, ?_, (Below.refl _ _).alloc (Nat.le_refl _) _⟩
    · show decDigits _ = _
      simp [run, txt]
    · exact World.rowIs_alloc w _ 33 (fun _ => .int .u8 0) zeros20
  case round =>
    obtain ⟨m, q, g, rfl, rfl, hq, hm0, hm1, HT, HN, HG, hrow, hbel⟩ := hrel
    have hq0 : 0 < q := by
      rcases q with _ | q
      · have h1 := HT.out
        rcases HN.out with h2 | h2
        · omega
        · simp at h1; omega
      · omega
    obtain ⟨r, rfl⟩ : ∃ r, q = r + 1 := ⟨q - 1, by omega⟩
    have hc1 := hrow.cell (i := r) (by omega)
    have hf1 := hrow.frozen r
    have HT' := hideIt (lt_div HT.out)
    have HR := hideIt ((hrow.set r (.int .u8 (48 + m % 10))).congr (g := fun j => .int .u8 (setAt g r (48 + m % 10) j)) fun j _ => by
      unfold setAt
      by_cases e : j = r
      · simp only [if_pos e]
      · simp only [if_neg e])
    have HB := hideIt (hbel.setCell (p := ⟨w.heap.size, r, none⟩) (Nat.le_refl _) (.int .u8 (48 + m % 10)))
    by_cases hlast : m < 10
    · have hz : (m / 10 == 0) = true := by simp; omega
      have HD := hideIt (dec_last hm0 hlast (by omega) HG.out)
      have hsl := fun W => run_tail w.heap.size r (by omega) W
      have hcv := run_convert_bytes_arg (P := Tryd.prog) (wr.setCell ⟨w.heap.size, r, none⟩ (.int .u8 (48 + m % 10))) 34 5 Tryd.underlying34 Tryd.underlying5 w.heap.size r (20 - r) (20 - r) (run (setAt g r (48 + m % 10)) r) (run_len _ _) (fun i hi => by
        rw [HR.out.cell (by omega), run_at _ _ _ hi]) 9 Tryd.underlying9
      have hss : (strOfNums (run (setAt g r (48 + m % 10)) r)).size ≤ 20 := by rw [strOfNums_size, run_len]; omega
      clear hrow hbel HT HN HG HT' HR
      go_wp2
      go_ret
      exact ⟨ret_str (bytes_of (by rw [itoa_minus HU.out h1, HD.out]; simp [ByteArray.data_append, strOfNums_data, txt])), HB.out⟩
    · have hz : (m / 10 == 0) = false := by simp; omega
      have HD := hideIt (dec_step (by omega) (by omega) HG.out)
      clear hrow hbel HT HN HG
      go_wp2
      go_roundw
      case rel => exact ⟨m / 10, r, setAt g r (48 + m % 10), rfl, rfl, by omega, by omega, by omega, HT', .inr (by omega), HD, HR.out, HB.out⟩
      case measure => simp [intOf]

set_option maxHeartbeats 1600000 in
theorem itoa64_pos (v : Int) (w : World) (h0 : 0 ≤ v) (h1 : v ≤ 9223372036854775807) :
    Calls Tryd.prog 7 #[.int .i64 v] w fun e w' => e = .returned (.string (bytes (itoa v))) ∧ Below w.heap.size w w' := by
  have t8 : decide (v < 0) = false := decide_eq_false (by omega)
  obtain ⟨U, hU⟩ : ∃ U, U = v := ⟨_, rfl⟩
  have hu0 : 0 ≤ U := by omega
  have hu1 : U ≤ 18446744073709551615 := by omega
  have HU := hideIt hU
  clear hU
  go_enter Tryd.func7, Tryd.ntmps7
  go_wp2
  go_loopw [3, 5] (fun n k wr => ∃ (m : Int) (q : Nat) (g : Nat → Int), n = .int .u64 m ∧ k = .int .i64 q ∧ q ≤ 20 ∧ 0 ≤ m ∧ m ≤ 18446744073709551615 ∧ Hid (m < 10 ^ q) ∧ Hid (q = 20 ∨ 0 < m) ∧ Hid (decDigits U.toNat = decDigits m.toNat ++ txt (run g q)) ∧ wr.rowIs w.heap.size 33 20 (fun j => .int .u8 (g j)) ∧ Below w.heap.size w wr) (fun _ k _ => (intOf k).toNat)
  case atStart =>
    refine ⟨v, 20, fun _ => 0, rfl, rfl, Nat.le_refl _, by omega, by omega, lt_top (by omega), .inl rfl, ?_, ?_, (Below.refl _ _).alloc (Nat.le_refl _) _⟩
    · show decDigits _ = _
      rw [HU.out]; simp [run, txt]
    · exact World.rowIs_alloc w _ 33 (fun _ => .int .u8 0) zeros20
  case round =>
    obtain ⟨m, q, g, rfl, rfl, hq, hm0, hm1, HT, HN, HG, hrow, hbel⟩ := hrel
    have hq0 : 0 < q := by
      rcases q with _ | q
      · have h1 := HT.out
        rcases HN.out with h2 | h2
        · omega
        · simp at h1; omega
      · omega
    obtain ⟨r, rfl⟩ : ∃ r, q = r + 1 := ⟨q - 1, by omega⟩
    have hc1 := hrow.cell (i := r) (by omega)
    have hf1 := hrow.frozen r
    have HT' := hideIt (lt_div HT.out)
    have HR := hideIt ((hrow.set r (.int .u8 (48 + m % 10))).congr (g := fun j => .int .u8 (setAt g r (48 + m % 10) j)) fun j _ => by
      unfold setAt
      by_cases e : j = r
      · simp only [if_pos e]
      · simp only [if_neg e])
    have HB := hideIt (hbel.setCell (p := ⟨w.heap.size, r, none⟩) (Nat.le_refl _) (.int .u8 (48 + m % 10)))
    by_cases hlast : m < 10
    · have hz : (m / 10 == 0) = true := by simp; omega
      have HD := hideIt (dec_last hm0 hlast (by omega) HG.out)
      have hsl := fun W => run_tail w.heap.size r (by omega) W
      have hcv := run_convert_bytes_arg (P := Tryd.prog) (wr.setCell ⟨w.heap.size, r, none⟩ (.int .u8 (48 + m % 10))) 34 5 Tryd.underlying34 Tryd.underlying5 w.heap.size r (20 - r) (20 - r) (run (setAt g r (48 + m % 10)) r) (run_len _ _) (fun i hi => by
        rw [HR.out.cell (by omega), run_at _ _ _ hi]) 9 Tryd.underlying9
      have hss : (strOfNums (run (setAt g r (48 + m % 10)) r)).size ≤ 20 := by rw [strOfNums_size, run_len]; omega
      clear hrow hbel HT HN HG HT' HR
      go_wp2
      go_ret
      exact ⟨ret_str (bytes_of (by rw [itoa_plus HU.out h0, HD.out]; rfl)), HB.out⟩
    · have hz : (m / 10 == 0) = false := by simp; omega
      have HD := hideIt (dec_step (by omega) (by omega) HG.out)
      clear hrow hbel HT HN HG
      go_wp2
      go_roundw
      case rel => exact ⟨m / 10, r, setAt g r (48 + m % 10), rfl, rfl, by omega, by omega, by omega, HT', .inr (by omega), HD, HR.out, HB.out⟩
      case measure => simp [intOf]

theorem itoa64_any (v : Int) (w : World) (h0 : -9223372036854775808 ≤ v) (h1 : v ≤ 9223372036854775807) :
    Calls Tryd.prog 7 #[.int .i64 v] w fun e w' => e = .returned (.string (bytes (itoa v))) ∧ Below w.heap.size w w' := by
  by_cases h : v < 0
  · exact itoa64_neg v w h0 h
  · exact itoa64_pos v w (by omega) h1
end Go.Proofs.Qxb6627473aDoor
