/-
  THE LEAVES: zzBytes.., zzVal, ZZnewTable, ZZages, zzExpect, zzCount.
-/
import Derived.Test.Qxb6630908aRows
import Derived.Test.Qxb6630908aPlain
import Derived.WalkKit
import Derived.WalkSpells
import Derived.Below
import Derived.Deep.QuietTactic
import Derived.BigQuiet
namespace Go.Proofs.Qxb6630908a
open Go.RowKit Go.Maps

/-- A slice of ints that the walk may read: nil or not; its first 'len' cells are the numbers 'zs'. -/
structure Row (w : World) (a : Option Addr) (len : Nat) (zs : List Int) : Prop where
  le : len ≤ zs.length
  small : len ≤ 4096
  wf : ∀ n ∈ zs, (Lit.int .i64 n).wf = true
  cells : 0 < len → ∃ b off, a = some ⟨b, off, none⟩ ∧ b < w.heap.size ∧ ∀ j, j < len → w.cell? ⟨b, off + j, none⟩ = some (.int .i64 (zs.getD j 0))

theorem Row.later {w w' : World} {a : Option Addr} {len : Nat} {zs : List Int} (r : Row w a len zs) (h : Below w.heap.size w w') : Row w' a len zs := by
  refine ⟨r.le, r.small, r.wf, fun h0 => ?_⟩
  obtain ⟨b, off, e, hb, hc⟩ := r.cells h0
  exact ⟨b, off, e, Nat.lt_of_lt_of_le hb h.size, fun j hj => (h.cell (p := ⟨b, off + j, none⟩) hb).trans (hc j hj)⟩

theorem bytes5_any (a0 : Option Addr) (len0 cap0 : Nat) (a1 : Option Addr) (len1 cap1 : Nat) (x : Int) (w : World) (h0 : len0 ≤ 4096) (h1 : len1 ≤ 4096) :
    Calls Try.prog 5 #[.slice a0 len0 cap0, .slice a1 len1 cap1, .int .i64 x] w fun e w' => e = .returned (.bool true) ∧ w' = w := by
  go_enter Try.func5, Try.ntmps5
  go_wp2
  go_ret
  exact ⟨rfl, rfl⟩

theorem bytes11_any (a0 : Option Addr) (len0 cap0 : Nat) (a1 : Option Addr) (len1 cap1 : Nat) (x y : Int) (w : World) (h0 : len0 ≤ 4096) (h1 : len1 ≤ 4096) :
    Calls Try.prog 11 #[.slice a0 len0 cap0, .slice a1 len1 cap1, .int .i64 x, .int .i64 y] w fun e w' => e = .returned (.bool true) ∧ w' = w := by
  go_enter Try.func11, Try.ntmps11
  go_wp2
  go_ret
  exact ⟨rfl, rfl⟩

theorem val_any (a1 : Option Addr) (len1 cap1 : Nat) (vs : List Int) (k : Nat) (w : World) (r : Row w a1 len1 vs) (hk : k ≤ 4096) :
    Calls Try.prog 12 #[.slice a1 len1 cap1, .int .i64 k] w fun e w' => e = .returned (.int .i64 (valAt vs len1 k)) ∧ w' = w := by
  have hs := r.small
  unfold valAt
  by_cases h : k < len1
  · obtain ⟨b, off, rfl, _, hc⟩ := r.cells (by omega)
    have hx := hc k h
    clear hc r
    rw [if_pos h]
    go_enter Try.func12, Try.ntmps12
    go_wp2
    go_ret
    exact ⟨by simp, rfl⟩
  · rw [if_neg h]
    clear r
    go_enter Try.func12, Try.ntmps12
    go_wp2
    go_ret
    exact ⟨rfl, rfl⟩

theorem newTable_any (m : Option Nat) (w : World) :
    Calls Try.prog 6 #[.map m] w fun e w' => e = .returned (.pointer (some ⟨w.heap.size, 0, none⟩)) ∧ w' = w.alloc (.cells #[.int .i32 0, .int .u32 0, .map m] 40) := by
  go_enter Try.func6, Try.ntmps6
  go_wp2
  go_ret
  exact ⟨rfl, rfl⟩

theorem ages_any (tb : Nat) (m : Option Nat) (w : World) (h : w.cell? ⟨tb, 2, none⟩ = some (.map m)) :
    Calls Try.prog 10 #[.pointer (some ⟨tb, 0, none⟩)] w fun e w' => e = .returned (.map m) ∧ w' = w := by
  go_enter Try.func10, Try.ntmps10
  go_wp2
  go_ret
  exact ⟨rfl, rfl⟩
end Go.Proofs.Qxb6630908a
