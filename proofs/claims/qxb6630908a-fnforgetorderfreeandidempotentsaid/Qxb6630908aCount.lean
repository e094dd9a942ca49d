/-
  zzCount.
-/
import Derived.Test.Qxb6630908aLeaf
import Derived.Deep.Draws
namespace Go.Proofs.Qxb6630908a
open Go.RowKit Go.Maps

theorem ret_int {k : IntKind} {a b : Int} (h : a = b) : Ending.returned (.int k a) = .returned (.int k b) := by rw [h]

theorem count_none (a0 : Option Addr) (cap0 : Nat) (g1 g2 : Int) (w : World) :
    Calls Try.prog 15 #[.slice a0 0 cap0, .int .i64 g1, .int .i64 g2] w fun e w' => e = .returned (.int .i64 0) ∧ w' = w := by
  go_enter Try.func15, Try.ntmps15
  go_wp2
  refine wp_loop_rounds 1 ?_
  rw [rounds_succ]
  go_wp2
  go_ret
  exact ⟨rfl, rfl⟩

set_option maxHeartbeats 800000 in
theorem count_any (b off len0 cap0 : Nat) (zs : List Int) (g1 g2 : Int) (w : World) (hl : len0 ≤ 4096)
    (hc : ∀ j, j < len0 → w.cell? ⟨b, off + j, none⟩ = some (.int .i64 (zs.getD j 0))) :
    Calls Try.prog 15 #[.slice (some ⟨b, off, none⟩) len0 cap0, .int .i64 g1, .int .i64 g2] w fun e w' =>
      e = .returned (.int .i64 (cnt [g1, g2] zs len0 len0)) ∧ ∃ n, w' = w.drewN n := by
  have HCC : Hid (∀ j, j < len0 → w.cell? ⟨b, off + j, none⟩ = some (.int .i64 (zs.getD j 0))) := hc
  clear hc
  go_enter Try.func15, Try.ntmps15
  go_wp2
  go_loopw [7, 8] (fun c i wr => ∃ k n : Nat, k ≤ len0 ∧ i = .int .i64 k ∧ c = .int .i64 (cnt [g1, g2] zs len0 k) ∧ wr = w.drewN n) (fun _ i _ => len0 - (intOf i).toNat)
  case atStart => exact ⟨0, 0, Nat.zero_le _, rfl, rfl, rfl⟩
  case round =>
    obtain ⟨k, n, hk, rfl, rfl, rfl⟩ := hrel
    have hcl := cnt_le [g1, g2] zs len0 k
    have hst : cnt [g1, g2] zs len0 (k + 1) = cnt [g1, g2] zs len0 k + one [g1, g2] zs len0 k := rfl
    obtain ⟨c0, hc0⟩ : ∃ c0, c0 = cnt [g1, g2] zs len0 k := ⟨_, rfl⟩
    rw [← hc0] at hst hcl
    rw [← hc0]
    have HC : Hid (c0 = cnt [g1, g2] zs len0 k) := hc0
    have HST : Hid (cnt [g1, g2] zs len0 (k + 1) = c0 + one [g1, g2] zs len0 k) := hst
    clear hst hc0
    by_cases hlt : k < len0
    · have hx := HCC.out k hlt
      obtain ⟨y, hy⟩ : ∃ y, y = zs.getD k 0 := ⟨_, rfl⟩
      rw [← hy] at hx
      have HY : Hid (y = zs.getD k 0) := hy
      clear hy
      by_cases hy1 : y = g1
      · have hy1' : (y == g1) = true := by simpa using hy1
        have H1 : Hid (cnt [g1, g2] zs len0 (k + 1) = c0) := by rw [HST.out, one_gone (by rw [← HY.out, hy1]; simp)]; trivial
        clear hy1 HST
        go_wp2
        go_roundw
        case rel => exact ⟨k + 1, n, by omega, by go_num, by rw [H1.out], rfl⟩
        case measure => simp [intOf]; omega
      · have hy1' : (y == g1) = false := by simpa using hy1
        by_cases hy2 : y = g2
        · have hy2' : (y == g2) = true := by simpa using hy2
          have H1 : Hid (cnt [g1, g2] zs len0 (k + 1) = c0) := by rw [HST.out, one_gone (by rw [← HY.out, hy2]; simp)]; trivial
          clear hy1 hy2 HST
          go_wp2
          go_roundw
          case rel => exact ⟨k + 1, n, by omega, by go_num, by rw [H1.out], rfl⟩
          case measure => simp [intOf]; omega
        · have hy2' : (y == g2) = false := by simpa using hy2
          have HN : Hid (¬ zs.getD k 0 ∈ [g1, g2]) := by rw [← HY.out]; show ¬ _; simp [hy1, hy2]
          clear hy1 hy2
          go_wp2
          go_loopw [9, 10] (fun l i wr => ∃ j n : Nat, k < j ∧ j ≤ len0 ∧ i = .int .i64 j ∧ l = .bool true ∧ Hid (∀ j', k < j' → j' < j → zs.getD j' 0 ≠ zs.getD k 0) ∧ wr = w.drewN n) (fun _ i _ => len0 - (intOf i).toNat)
          case atStart => exact ⟨k + 1, n, by omega, by omega, by go_num, rfl, fun j' h1 h2 => by omega, rfl⟩
          case round =>
            obtain ⟨j, n2, hj0, hj, rfl, rfl, HA, rfl⟩ := hrel
            by_cases hlj : j < len0
            · have hz := HCC.out j hlj
              obtain ⟨z, hz'⟩ : ∃ z, z = zs.getD j 0 := ⟨_, rfl⟩
              rw [← hz'] at hz
              have HZ : Hid (z = zs.getD j 0) := hz'
              clear hz'
              by_cases hyz : z = y
              · have hyz' : (z == y) = true := by simpa using hyz
                have H1 : Hid (cnt [g1, g2] zs len0 (k + 1) = c0) := by rw [HST.out, one_again ⟨j, hj0, hlj, by rw [← HY.out, ← HZ.out, hyz]⟩]; trivial
                clear hyz
                go_wp2
                go_quiet (fail)
                go_wp2
                go_roundw
                case rel => exact ⟨k + 1, _, by omega, by go_num, by rw [H1.out], rfl⟩
                case measure => simp [intOf]; omega
              · have hyz' : (z == y) = false := by simpa using hyz
                have HA' : Hid (∀ j', k < j' → j' < j + 1 → zs.getD j' 0 ≠ zs.getD k 0) := by
                  intro j' h1 h2
                  by_cases e : j' = j
                  · subst e; rw [← HY.out, ← HZ.out]; exact hyz
                  · exact HA.out j' h1 (by omega)
                clear hyz HA
                go_wp2
                go_quiet (fail)
                go_wp2
                go_roundw
                case rel => exact ⟨j + 1, _, by omega, by omega, by go_num, rfl, HA', rfl⟩
                case measure => simp [intOf]; omega
            · have H1 : Hid (cnt [g1, g2] zs len0 (k + 1) = c0 + 1) := by
                rw [HST.out, one_last HN.out (by rintro ⟨j', h1, h2, h3⟩; exact HA.out j' h1 (by omega) h3)]; trivial
              go_wp2
              go_roundw
              case rel => exact ⟨k + 1, _, by omega, by go_num, by rw [H1.out]; go_num, rfl⟩
              case measure => simp [intOf]; omega
    · have hkk : k = len0 := by omega
      clear HST
      go_wp2
      go_ret
      exact ⟨ret_int (by rw [HC.out, hkk]), n, rfl⟩
end Go.Proofs.Qxb6630908a
