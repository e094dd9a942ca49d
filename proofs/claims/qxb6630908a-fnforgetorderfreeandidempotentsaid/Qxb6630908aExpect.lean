/-
  zzExpect.
-/
import Derived.Test.Qxb6630908aLeaf
namespace Go.Proofs.Qxb6630908a
open Go.RowKit Go.Maps

theorem expect_gone1 (a0 : Option Addr) (len0 cap0 : Nat) (a1 : Option Addr) (len1 cap1 : Nat) (g2 x : Int) (w : World) :
    Calls Try.prog 16 #[.slice a0 len0 cap0, .slice a1 len1 cap1, .int .i64 x, .int .i64 g2, .int .i64 x] w fun e w' => e = .returned (.tuple #[.int .i64 0, .bool false]) ∧ w' = w := by
  go_enter Try.func16, Try.ntmps16
  go_wp2
  go_ret2
  exact ⟨rfl, rfl⟩

theorem expect_gone2 (a0 : Option Addr) (len0 cap0 : Nat) (a1 : Option Addr) (len1 cap1 : Nat) (g1 x : Int) (w : World) (h : (x == g1) = false) :
    Calls Try.prog 16 #[.slice a0 len0 cap0, .slice a1 len1 cap1, .int .i64 g1, .int .i64 x, .int .i64 x] w fun e w' => e = .returned (.tuple #[.int .i64 0, .bool false]) ∧ w' = w := by
  go_enter Try.func16, Try.ntmps16
  go_wp2
  go_ret2
  exact ⟨rfl, rfl⟩

set_option maxHeartbeats 400000 in
theorem expect_any (b off len0 cap0 : Nat) (a1 : Option Addr) (len1 cap1 : Nat) (zs vs : List Int) (g1 g2 x : Int) (w : World) (r1 : Row w a1 len1 vs) (hl : len0 ≤ 4096)
    (hc : ∀ j, j < len0 → w.cell? ⟨b, off + j, none⟩ = some (.int .i64 (zs.getD j 0))) (h1 : (x == g1) = false) (h2 : (x == g2) = false) :
    Calls Try.prog 16 #[.slice (some ⟨b, off, none⟩) len0 cap0, .slice a1 len1 cap1, .int .i64 g1, .int .i64 g2, .int .i64 x] w fun e w' =>
      e = .returned (.tuple #[.int .i64 (valOf vs len1 (lastIdx zs x len0)), .bool (lastIdx zs x len0).isSome]) ∧ w' = w := by
  obtain ⟨L, hL⟩ : ∃ L, L = lastIdx zs x len0 := ⟨_, rfl⟩
  rw [← hL]
  have HL : Hid (L = lastIdx zs x len0) := hL
  clear hL
  go_enter Try.func16, Try.ntmps16
  go_wp2
  go_loop [12] (fun i => ∃ j : Nat, j ≤ len0 ∧ i = .int .i64 ((j : Int) - 1) ∧ Hid (L = lastIdx zs x j)) (fun i => (intOf i + 1).toNat)
  case atStart => exact ⟨len0, Nat.le_refl _, rfl, HL⟩
  case round =>
    obtain ⟨j, hj, rfl, HJ⟩ := hrel
    clear HL
    rcases j with _ | j
    · go_wp2
      go_ret2
      rw [HJ.out]
      exact ⟨rfl, rfl⟩
    · have e : ((j + 1 : Nat) : Int) - 1 = (j : Int) := by omega
      rw [e]
      have hx := hc j (by omega)
      clear hc
      have hs : lastIdx zs x (j + 1) = if zs.getD j 0 = x then some j else lastIdx zs x j := rfl
      have HS : Hid (lastIdx zs x (j + 1) = if zs.getD j 0 = x then some j else lastIdx zs x j) := hs
      clear hs e
      obtain ⟨y, hy⟩ : ∃ y, y = zs.getD j 0 := ⟨_, rfl⟩
      rw [← hy] at hx HS
      clear hy
      by_cases hq : y = x
      · subst hq
        have HS' : Hid (L = some j) := by rw [HJ.out, HS.out, if_pos rfl]; trivial
        clear HS HJ
        go_wp2_with (go_at_call 12; refine (val_any a1 len1 cap1 vs j _ r1 (by omega)).mono ?_; rintro e w' ⟨rfl, rfl⟩)
        go_ret2
        rw [HS'.out]
        exact ⟨rfl, rfl⟩
      · have hq' : (y == x) = false := by simpa using hq
        have HS' : Hid (L = lastIdx zs x j) := by rw [HJ.out, HS.out, if_neg hq]; trivial
        clear HS HJ
        go_wp2
        go_round
        case rel => exact ⟨j, by omega, rfl, HS'⟩
        case measure => simp [intOf]
end Go.Proofs.Qxb6630908a
