/-
  zzBuild: the map that the pairs build. Its one store, 'm[keys[i]] = zzVal(vals, i)', draws its order.
-/
import Derived.Test.Qxb6630908aLeaf
import Derived.Maps.OwnSet
import Derived.Deep.RegionWith
import Derived.Deep.Draws
namespace Go.Proofs.Qxb6630908a
open Go.RowKit Go.Maps

theorem law3 : Keyed Try.prog 3 := int_keyed Try.underlying3
theorem zero3 (w : World) : (zeroValue 3).run Try.prog w = .ok (.int .i64 0) w := by kernel_rfl

theorem build_none (a0 : Option Addr) (cap0 : Nat) (a1 : Option Addr) (len1 cap1 : Nat) (w : World) :
    Calls Try.prog 7 #[.slice a0 0 cap0, .slice a1 len1 cap1] w fun e w' => e = .returned (.map none) ∧ w' = w := by
  go_enter Try.func7, Try.ntmps7
  go_wp2
  go_ret
  exact ⟨rfl, rfl⟩

theorem val_wf {vs : List Int} (h : ∀ n ∈ vs, (Lit.int .i64 n).wf = true) (n i : Nat) : (Lit.int .i64 (valAt vs n i)).wf = true := by
  unfold valAt
  split
  · rw [List.getD_eq_getElem?_getD]
    rcases hg : vs[i]? with _ | v
    · decide
    · exact h v (List.mem_of_getElem? hg)
  · decide

theorem get_wf {vs : List Int} (h : ∀ n ∈ vs, (Lit.int .i64 n).wf = true) (i : Nat) : (Lit.int .i64 (vs.getD i 0)).wf = true := by
  rw [List.getD_eq_getElem?_getD]
  rcases hg : vs[i]? with _ | v
  · decide
  · exact h v (List.mem_of_getElem? hg)

set_option maxHeartbeats 800000 in
theorem build_any (b off len0 cap0 : Nat) (a1 : Option Addr) (len1 cap1 : Nat) (zs vs : List Int) (w : World) (hl : len0 ≤ 4096) (h0 : 0 < len0) (hb : b < w.heap.size) (r1 : Row w a1 len1 vs)
    (hwz : ∀ n ∈ zs, (Lit.int .i64 n).wf = true) (hc : ∀ j, j < len0 → w.cell? ⟨b, off + j, none⟩ = some (.int .i64 (zs.getD j 0))) :
    Calls Try.prog 7 #[.slice (some ⟨b, off, none⟩) len0 cap0, .slice a1 len1 cap1] w fun e w' =>
      e = .returned (.map (some w.heap.size)) ∧ w'.ownsMap Try.prog 3 (plainElem Try.prog 3) w.heap.size len0 (bld zs vs len1 len0) ∧ Below w.heap.size w w' := by
  have hmm := @run_makeMap Try.prog
  have h00 : ((len0 : Int) == 0) = false := by simp; omega
  have HCC : Hid (∀ j, j < len0 → w.cell? ⟨b, off + j, none⟩ = some (.int .i64 (zs.getD j 0))) := hc
  clear hc
  go_enter Try.func7, Try.ntmps7
  go_wp2
  go_loopw [6] (fun i wr => ∃ k : Nat, k ≤ len0 ∧ i = .int .i64 k ∧ wr.ownsMap Try.prog 3 (plainElem Try.prog 3) w.heap.size k (bld zs vs len1 k) ∧ Below w.heap.size w wr)
    (fun i _ => len0 - (intOf i).toNat)
  case atStart => exact ⟨0, Nat.zero_le _, rfl, World.ownsMap_made _ _ _ _, (Below.refl _ _).alloc (Nat.le_refl _) _⟩
  case round =>
    obtain ⟨k, hk, rfl, hown, hnx⟩ := hrel
    by_cases hlt : k < len0
    · have hx : wr.cell? ⟨b, off + k, none⟩ = some (.int .i64 (zs.getD k 0)) := (hnx.cell (by exact hb)).trans (HCC.out k hlt)
      have hwf := get_wf hwz k
      have hb2 : bld zs vs len1 (k + 1) = (bld zs vs len1 k).put (.int .i64 (zs.getD k 0)) (.lit (.int .i64 (valAt vs len1 k))) := rfl
      obtain ⟨y, hy⟩ : ∃ y, y = zs.getD k 0 := ⟨_, rfl⟩
      rw [← hy] at hx hwf hb2
      have rr := r1.later hnx
      have rr' : Row wr.drew a1 len1 vs := ⟨rr.le, rr.small, rr.wf, rr.cells⟩
      obtain ⟨w1, hrun, hown1, hgrow⟩ := World.ownsMap.update hown.drew law3 Try.underlying26 (by unfold maxLen; omega) (keyOf_int_mk Try.underlying3 hwf) (plainElem_int Try.underlying3 (val_wf r1.wf len1 k))
      have HB : Hid (bld zs vs len1 (k + 1) = (bld zs vs len1 k).put (.int .i64 y) (.lit (.int .i64 (valAt vs len1 k)))) := hb2
      clear hb2 hy
      go_wp2
      go_region_with (go_at_call 12; refine (val_any a1 len1 cap1 vs k _ rr' (by omega)).mono ?_; rintro e w' ⟨rfl, rfl⟩)
      all_goals
        go_wp2
        go_roundw
        case rel => exact ⟨k + 1, by omega, by go_num, by rw [HB.out]; exact hown1, hnx.drew.grown hgrow hnx.size (fun j hj => by cases hj; exact Nat.le_refl _)⟩
        case measure => simp [intOf]; omega
    · have hkk : k = len0 := by omega
      subst hkk
      go_wp2
      go_ret
      exact ⟨rfl, hown, hnx⟩
end Go.Proofs.Qxb6630908a
