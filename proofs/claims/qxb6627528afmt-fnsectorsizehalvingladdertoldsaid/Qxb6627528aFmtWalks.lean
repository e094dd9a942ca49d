/-
  CheckSectorSize and FnSectorSizeHalvingLadder, walked.
-/
import Derived.Test.Qxb6627528aFmtFacts
import Derived.WalkKit
import Derived.WalkSpells
import Derived.Below
namespace Go.Proofs.Qxb6627528aFmt
open Go.RowKit Go.Extern.Stop Go.Stop Go.Extern
attribute [local go_sem] call6 guard_ok fmt0 fmt0r op3_100 op3_100w strict3 ptr30 elem30 isError30
set_option linter.unusedVariables false

theorem hideIt {p : Prop} (h : p) : Hid p := h

/-- The sizes that are taken. -/
def isPow (s : Int) : Bool := s == 512 || s == 1024 || s == 2048 || s == 4096

theorem pow_table : ((List.range 3585).all fun i => (bits BinOp.and IntKind.i64 ((i : Int) + 512) ((i : Int) + 512 - 1) != 0) == !(isPow ((i : Int) + 512))) = true := by kernel_rfl

theorem pow_bits {s : Int} (h0 : 512 ≤ s) (h1 : s ≤ 4096) : (bits BinOp.and IntKind.i64 s (s - 1) != 0) = !(isPow s) := by
  have := List.all_eq_true.1 pow_table (s - 512).toNat (List.mem_range.2 (by omega))
  have e : (((s - 512).toNat : Nat) : Int) + 512 = s := by omega
  rw [e] at this
  exact beq_iff_eq.1 this

/-- CheckSectorSize refuses: some error that is not nil. -/
theorem check_bad (F : Interp) (s : Int) (w : World) (hF : F.answers w.tape) (h : s < 512 ∨ (512 ≤ s ∧ 4096 < s) ∨ (512 ≤ s ∧ s ≤ 4096 ∧ isPow s = false)) :
    Calls Tryf.prog 4 #[.int .i64 s] w fun e w' => e = .returned (.iface 30 (.pointer (some ⟨w.heap.size + 1, 0, none⟩))) ∧ Below w.heap.size w w' := by
  have hF' := answers_open hF
  rcases h with h | ⟨h, h2⟩ | ⟨h, h2, h3⟩
  · go_enter Tryf.func4, Tryf.ntmps4
    go_wp2
    go_ret
    exact ⟨rfl, (((Below.refl _ _).alloc (Nat.le_refl _) _).alloc (by simp) _).drew⟩
  · go_enter Tryf.func4, Tryf.ntmps4
    go_wp2
    go_ret
    exact ⟨rfl, (((Below.refl _ _).alloc (Nat.le_refl _) _).alloc (by simp) _).drew⟩
  · have hb := pow_bits h h2
    rw [h3, Bool.not_false] at hb
    clear h3
    go_enter Tryf.func4, Tryf.ntmps4
    go_wp2
    go_ret
    exact ⟨rfl, (((Below.refl _ _).alloc (Nat.le_refl _) _).alloc (by simp) _).drew⟩

/-- CheckSectorSize takes the size: nil. -/
theorem check_good (s : Int) (w : World) (h0 : 512 ≤ s) (h1 : s ≤ 4096) (h2 : isPow s = true) :
    Calls Tryf.prog 4 #[.int .i64 s] w fun e w' => e = .returned .nilIface ∧ w' = w := by
  have hb := pow_bits h0 h1
  rw [h2, Bool.not_true] at hb
  clear h2
  go_enter Tryf.func4, Tryf.ntmps4
  go_wp2
  go_ret
  exact ⟨rfl, rfl⟩

theorem pow_cases {s : Int} (h : isPow s = true) : s = 512 ∨ s = 1024 ∨ s = 2048 ∨ s = 4096 := by
  unfold isPow at h
  simp only [Bool.or_eq_true, beq_iff_eq] at h
  omega

theorem pow_not {s : Int} (h : isPow s = false) : s ≠ 512 ∧ s ≠ 1024 ∧ s ≠ 2048 ∧ s ≠ 4096 := by
  unfold isPow at h
  simp only [Bool.or_eq_false_iff, beq_eq_false_iff_ne] at h
  exact ⟨h.1.1.1, h.1.1.2, h.1.2, h.2⟩

theorem not_pow {s : Int} (h : s ≠ 512 ∧ s ≠ 1024 ∧ s ≠ 2048 ∧ s ≠ 4096) : isPow s = false := by
  unfold isPow
  simp only [Bool.or_eq_false_iff, beq_eq_false_iff_ne]
  exact ⟨⟨⟨h.1, h.2.1⟩, h.2.2.1⟩, h.2.2.2⟩

/-- THE LAW, whatever fmt answers. -/
theorem ladder (F : Interp) (s : Int) (w : World) (hF : F.answers w.tape) (h0 : -9223372036854775808 ≤ s) (h1 : s ≤ 9223372036854775807) :
    Calls Tryf.prog 3 #[.int .i64 s] w fun e w' => e = .returned (.bool true) ∧ Below w.heap.size w w' := by
  by_cases hp : isPow s = true
  · have hs := pow_cases hp
    have HG := hideIt (fun W => check_good s W (by omega) (by omega) hp)
    clear hp
    by_cases h512 : s = 512
    · subst h512
      go_enter Tryf.func3, Tryf.ntmps3
      go_wp2_with (go_at_call 4; refine Calls.mono (HG.out _) ?_; rintro e w' ⟨rfl, hw⟩; obtain rfl := hw.symm)
      go_ret
      exact ⟨rfl, Below.refl _ _⟩
    · have H2 := hideIt (fun W => check_good (s / 2) W (by omega) (by omega) (by
        unfold isPow
        simp only [Bool.or_eq_true, beq_iff_eq]
        omega))
      have hne : (s == 512) = false := by simpa using h512
      have hgt : 512 < s := by omega
      have hle : s ≤ 4096 := by omega
      have hev : (s % 2 == 0) = true := by simp; omega
      clear hs h512
      go_enter Tryf.func3, Tryf.ntmps3
      go_wp2_with fail
      refine Calls.mono (HG.out _) ?_
      rintro e w' ⟨rfl, hw⟩
      obtain rfl := hw.symm
      go_wp2_with fail
      refine Calls.mono (H2.out _) ?_
      rintro e w' ⟨rfl, hw⟩
      obtain rfl := hw.symm
      go_wp2
      go_ret
      exact ⟨rfl, Below.refl _ _⟩
  · have hn := pow_not (by simpa using hp)
    have HB := hideIt (check_bad F s w hF (by
      by_cases a : s < 512
      · exact .inl a
      · by_cases b : 4096 < s
        · exact .inr (.inl ⟨by omega, b⟩)
        · exact .inr (.inr ⟨by omega, by omega, by simpa using hp⟩)))
    clear hp
    have hne : (s == 512) = false := by simpa using hn.1
    by_cases c1 : s < 512
    · clear hn
      go_enter Tryf.func3, Tryf.ntmps3
      go_wp2_with (go_at_call 4; refine Calls.mono HB.out ?_; rintro e w' ⟨rfl, hb⟩)
      go_ret
      exact ⟨rfl, hb⟩
    · have hgt : 512 < s := by omega
      by_cases c2 : 4096 < s
      · clear hn c1
        go_enter Tryf.func3, Tryf.ntmps3
        go_wp2_with (go_at_call 4; refine Calls.mono HB.out ?_; rintro e w' ⟨rfl, hb⟩)
        go_ret
        exact ⟨rfl, hb⟩
      · have hle : s ≤ 4096 := by omega
        by_cases c3 : s % 2 = 0
        · have hev : (s % 2 == 0) = true := by simpa using c3
          have H2 := hideIt (fun W hW => check_bad F (s / 2) W hW (by
            by_cases a : s / 2 < 512
            · exact .inl a
            · exact .inr (.inr ⟨by omega, by omega, not_pow (by omega)⟩)))
          clear hn c1 c2 c3
          go_enter Tryf.func3, Tryf.ntmps3
          go_wp2_with fail
          refine Calls.mono HB.out ?_
          rintro e W1 ⟨rfl, hb⟩
          have HF1 := hideIt (show F.answers W1.tape by rw [hb.tape]; exact hF)
          have HB1 := hideIt hb
          clear HB hb
          go_wp2_with fail
          refine Calls.mono (H2.out _ HF1.out) ?_
          rintro e W2 ⟨rfl, hb2⟩
          have HB2 := hideIt (HB1.out.trans (hb2.mono HB1.out.size))
          clear hb2
          go_wp2
          go_ret
          exact ⟨rfl, HB2.out⟩
        · have hev : (s % 2 == 0) = false := by simpa using c3
          clear hn c1 c2 c3
          go_enter Tryf.func3, Tryf.ntmps3
          go_wp2_with (go_at_call 4; refine Calls.mono HB.out ?_; rintro e w' ⟨rfl, hb⟩)
          go_ret
          exact ⟨rfl, hb⟩
end Go.Proofs.Qxb6627528aFmt
