/-
  THE PROOF OF 'Rows.FnForgetDeletesExactlyOneSaid': the kit's shell for this function, its walk filled in.
-/
import Derived.Test.Qxb6630908aRows
import Derived.WalkKit
import Derived.ProofKit
import Derived.OpenShut
import Derived.ShutString
import Derived.ChangeOld
import Derived.Below
import Derived.Test.Qxb6630908aAgrees
namespace Go.Proofs.Qxb6630908a.fnForgetDeletesExactlyOne
open Go.ChangeShapes Go.WideShapes Go.ChangeAt Go.RowKit
open Go.ChangeMaps (open_string shut_string)
set_option linter.unusedVariables false

theorem own : ownKnob Try.prog.godebug = none := by kernel_rfl
theorem laidOut : laidOutB Try.prog = true := by kernel_rfl

/-- WHAT THE WALK IS TOLD OF A SLICE OF INTEGERS THAT CAME IN: it is nil; or it leads to a row of 'cap' cells, the numbers 'zs' (the first 'len' are its elements, the rest its spare room), each fitting its kind. -/
def IsRow (k : IntKind) (w : World) (a : Option Addr) (len cap : Nat) (zs : List Int) : Prop :=
  (a = none ∧ len = 0 ∧ cap = 0 ∧ zs = []) ∨
  ∃ x, a = some x ∧ len ≤ cap ∧ cap ≤ maxLen ∧ zs.length = cap ∧ (∀ i, i < zs.length → w.cell? (x.add i) = some (.int k (zs.getD i 0))) ∧ ∀ n ∈ zs, (Lit.int k n).wf = true

theorem isRow_row {w : World} {a : Option Addr} {len cap : Nat} {zs : List Int} (h : IsRow .i64 w a len cap zs) (hl : len ≤ 4096) : Row w a len zs := by
  rcases h with ⟨rfl, rfl, rfl, rfl⟩ | ⟨x, rfl, h1, h2, h3, h4, h5⟩
  · exact ⟨Nat.le_refl _, by omega, by simp, fun h => by omega⟩
  · refine ⟨by omega, hl, h5, fun hp => ?_⟩
    obtain ⟨b, off, rfl, hc⟩ := ints_at h4 (by omega)
    exact ⟨b, off, rfl, World.block_lt_of_cell? _ _ (hc 0 (by omega)), fun j hj => hc j (by omega)⟩

theorem bytes5_free (a0 : Option Addr) (len0 cap0 : Nat) (a1 : Option Addr) (len1 cap1 : Nat) (x : Int) (w : World) (h0 : len0 ≤ 9223372036854775807) (h1 : len1 ≤ 9223372036854775807) :
    Calls Try.prog 5 #[.slice a0 len0 cap0, .slice a1 len1 cap1, .int .i64 x] w fun e w' => ∃ bo, e = .returned (.bool bo) ∧ w' = w := by
  go_enter Try.func5, Try.ntmps5
  go_wp2
  all_goals go_ret
  all_goals exact ⟨_, rfl, rfl⟩

set_option maxHeartbeats 800000 in
theorem one_nil (a0 : Option Addr) (cap0 : Nat) (a1 : Option Addr) (len1 cap1 : Nat) (a2 : Int) (w : World) (h1 : len1 ≤ 4096) (w2 : (Lit.int .i64 a2).wf = true) :
    Calls Try.prog 3 #[.slice a0 0 cap0, .slice a1 len1 cap1, .int .i64 a2] w fun e w' => e = .returned (.bool true) ∧ Below w.heap.size w w' := by
  go_enter Try.func3, Try.ntmps3
  go_wp2_with (first
    | (go_at_call 5; refine (bytes5_any a0 0 cap0 a1 len1 cap1 a2 _ (by omega) h1).mono ?_; rintro e w' ⟨rfl, hw⟩; obtain rfl := hw.symm)
    | (go_at_call 7; refine (build_none a0 cap0 a1 len1 cap1 _).mono ?_; rintro e w' ⟨rfl, hw⟩; obtain rfl := hw.symm)
    | (go_at_call 6; refine (newTable_any none _).mono ?_; rintro e w' ⟨rfl, rfl⟩))
  have hb1 : Below w.heap.size w (w.alloc (.cells #[.int .i32 0, .int .u32 0, .map none] 40)) := (Below.refl _ _).alloc (Nat.le_refl _) _
  have t1 : Nab (w.alloc (.cells #[.int .i32 0, .int .u32 0, .map none] 40)) w.heap.size := ⟨by simp [go_sem], by simp [go_sem], by simp [go_sem]⟩
  refine (forget_nil w.heap.size a2 _ t1 w2).mono ?_
  rintro e W2 ⟨rfl, t2, k2⟩
  have hb2 := k2.below hb1 (by simp) (Nat.le_refl _) (Nat.le_refl _)
  have c2 := t2.c2
  clear t1 k2 hb1 t2
  go_wp2_with (first
    | (go_at_call 10; refine (ages_any w.heap.size none _ c2).mono ?_; rintro e w' ⟨rfl, hw⟩; obtain rfl := hw.symm)
    | (go_at_call 9; refine (agrees_nil a0 cap0 a1 len1 cap1 a2 a2 _ w2 w2).mono ?_; rintro e w' ⟨rfl, n, rfl⟩))
  go_ret
  exact ⟨rfl, hb2.trans ⟨rfl, rfl, rfl, Nat.le_refl _, fun _ _ => rfl⟩⟩

set_option maxHeartbeats 800000 in
theorem one_some (a0 : Option Addr) (len0 cap0 : Nat) (z0 : List Int) (a1 : Option Addr) (len1 cap1 : Nat) (z1 : List Int) (a2 : Int) (w : World) (hp : 0 < len0) (r0 : Row w a0 len0 z0) (r1 : Row w a1 len1 z1) (w2 : (Lit.int .i64 a2).wf = true) :
    Calls Try.prog 3 #[.slice a0 len0 cap0, .slice a1 len1 cap1, .int .i64 a2] w fun e w' => e = .returned (.bool true) ∧ Below w.heap.size w w' := by
  obtain ⟨b, off, rfl, hb, hc⟩ := r0.cells hp
  have hl0 := r0.small
  have hl1 := r1.small
  have H0 := hideIt (show ∀ W, Below w.heap.size w W → ∀ j, j < len0 → W.cell? ⟨b, off + j, none⟩ = some (.int .i64 (z0.getD j 0)) from fun W h j hj => (h.cell (p := ⟨b, off + j, none⟩) hb).trans (hc j hj))
  have H1 := hideIt (show ∀ W, Below w.heap.size w W → Row W a1 len1 z1 from fun W h => r1.later h)
  have HW := hideIt r0.wf
  have HB := hideIt (build_any b off len0 cap0 a1 len1 cap1 z0 z1 w hl0 hp hb r1 r0.wf hc)
  clear hc r0 r1
  go_enter Try.func3, Try.ntmps3
  go_wp2_with (first
    | (go_at_call 5; refine (bytes5_any _ len0 cap0 a1 len1 cap1 a2 _ (by omega) (by omega)).mono ?_; rintro e w' ⟨rfl, hw⟩; obtain rfl := hw.symm)
    | (go_at_call 7; refine Calls.mono HB.out ?_; rintro e W1 ⟨rfl, hown1, hb1⟩)
    | (go_at_call 6; refine (newTable_any _ _).mono ?_; rintro e w' ⟨rfl, rfl⟩))
  have hs1 := hb1.size
  have hlt1 := hown1.lt
  have hb2 : Below w.heap.size w (W1.alloc (.cells #[.int .i32 0, .int .u32 0, .map (some w.heap.size)] 40)) := hb1.alloc hs1 _
  have t2 : Tab (W1.alloc (.cells #[.int .i32 0, .int .u32 0, .map (some w.heap.size)] 40)) W1.heap.size w.heap.size len0 (bld z0 z1 len1 len0) :=
    ⟨by simp [go_sem], by simp [go_sem], by simp [go_sem], by omega, hown1.alloc _⟩
  refine (forget_any W1.heap.size w.heap.size len0 _ a2 _ t2 w2).mono ?_
  rintro e W3 ⟨rfl, t3, k3⟩
  have hb3 := k3.below hb2 (by simp; omega) hs1 (Nat.le_refl _)
  have c2 := t3.c2
  have HA := hideIt (agrees_any w.heap.size len0 b off len0 cap0 a1 len1 cap1 z0 z1 a2 a2 _ W3 t3.own (agreed_one z0 z1 len0 len1 a2) (H1.out W3 hb3) hl0 HW.out w2 w2 (H0.out W3 hb3))
  clear t2 t3 k3 hb2 hown1 hb1
  go_wp2_with (first
    | (go_at_call 10; refine (ages_any W1.heap.size (some w.heap.size) _ c2).mono ?_; rintro e w' ⟨rfl, hw⟩; obtain rfl := hw.symm)
    | (go_at_call 9; refine Calls.mono HA.out ?_; rintro e w' ⟨rfl, n, rfl⟩))
  go_ret
  exact ⟨rfl, hb3.trans ⟨rfl, rfl, rfl, Nat.le_refl _, fun _ _ => rfl⟩⟩

/-! ### STEP 1: THE WALK: the Go text returns true, AND WRITES NOTHING THAT WAS THERE: 'Below w.heap.size w w'' (Derived/Below.lean: '.refl', '.alloc', '.drew', '.setCell' at a new block, '.trans'). Open each 'IsRow' by 'rcases' AHEAD of 'go_enter'; part every test ahead of the walk. -/
theorem walk (a0 : Option Addr) (len0 cap0 : Nat) (z0 : List Int) (a1 : Option Addr) (len1 cap1 : Nat) (z1 : List Int) (a2 : Int) (w : World) (w0 : IsRow .i64 w a0 len0 cap0 z0) (w1 : IsRow .i64 w a1 len1 cap1 z1) (w2 : (Lit.int .i64 a2).wf = true) :
    Calls Try.prog 3 #[.slice a0 len0 cap0, .slice a1 len1 cap1, .int .i64 a2] w fun e w' => e = .returned (.bool true) ∧ Below w.heap.size w w' := by
  have hm0 : len0 ≤ maxLen := by rcases w0 with ⟨_, h, _, _⟩ | ⟨x, _, h1, h2, _⟩ <;> omega
  have hm1 : len1 ≤ maxLen := by rcases w1 with ⟨_, h, _, _⟩ | ⟨x, _, h1, h2, _⟩ <;> omega
  unfold maxLen at hm0 hm1
  by_cases hl0 : 4096 < len0
  · clear w0 w1
    go_enter Try.func3, Try.ntmps3
    go_wp2_with (go_at_call 5; refine (bytes5_free a0 len0 cap0 a1 len1 cap1 a2 _ hm0 hm1).mono ?_; rintro e w' ⟨bo, rfl, rfl⟩)
    all_goals go_ret
    all_goals exact ⟨rfl, Below.refl _ _⟩
  by_cases hl1 : 4096 < len1
  · clear w0 w1
    go_enter Try.func3, Try.ntmps3
    go_wp2_with (go_at_call 5; refine (bytes5_free a0 len0 cap0 a1 len1 cap1 a2 _ hm0 hm1).mono ?_; rintro e w' ⟨bo, rfl, rfl⟩)
    all_goals go_ret
    all_goals exact ⟨rfl, Below.refl _ _⟩
  have r0 : Row w a0 len0 z0 := isRow_row w0 (by omega)
  have r1 : Row w a1 len1 z1 := isRow_row w1 (by omega)
  clear w0 w1
  have hk0 : len0 ≤ 4096 := by omega
  have hk1 : len1 ≤ 4096 := by omega
  clear hm0 hm1
  by_cases h0 : len0 = 0
  · subst h0
    exact one_nil a0 cap0 a1 len1 cap1 a2 w hk1 w2
  · exact one_some a0 len0 cap0 z0 a1 len1 cap1 z1 a2 w (by omega) r0 r1 w2

/-! ### THE ROW's STEP: WRITTEN OUT: LEAVE IT -/
set_option maxRecDepth 100000 in
theorem lifted (os : Os) (started : os.Started) (H : Type) (enc : TypeId × Value → H) :
    ReturnsInHanded {} Try.checked os 3 .any (Rows.fnForgetDeletesExactlyOneSpec.pre6 enc Try.prog Try.f3 Rows.fnForgetDeletesExactlyOneRow.domain false) (Rows.fnForgetDeletesExactlyOneSpec.post enc Try.prog Try.f3 false true false false) := by
  refine returnsInHanded_of_change (C := Try.checked) own started (by kernel_rfl) Try.func3
    (ChangeSpec.witness6 (enc := enc) (C := Try.checked) false ⟨#[], #[.slice none 0 0, .slice none 0 0, .int .i64 0], []⟩ 8 (by kernel_rfl) (by kernel_rfl) (by kernel_rfl) (by kernel_rfl)) ?_
  intro W base args ds gs before hval0 hW hcnd _
  have hval : ∀ (j : Nat) t v, Try.f3.params[j]? = some t → args[j]? = some v → Value.okWide Try.prog W .any base t v := hval0
  have hW' := hW
  obtain ⟨p, q, hA0, hV, rfl, hfz, hnd⟩ := hW
  have hA : DataW.TrodAll enc Try.prog W 0 (fun _ => true) true Try.f3.params.toList args.toList ds p := hA0
  rw [Try.params3] at hA hval
  obtain ⟨v0, vs0, d0, ds0, p0, q0, hargs, rfl, rfl, h0, r0⟩ := trodAll_cons hA
  obtain ⟨v1, vs1, d1, ds1, p1, q1, rfl, rfl, rfl, h1, r1⟩ := trodAll_cons r0
  obtain ⟨v2, vs2, d2, ds2, p2, q2, rfl, rfl, rfl, h2, r2⟩ := trodAll_cons r1
  obtain ⟨rfl, rfl, rfl⟩ := trodAll_nil r2
  obtain rfl : args = #[v0, v1, v2] := by cases args; simp_all
  obtain ⟨rfl, rfl⟩ := trodVars_none hV
  obtain ⟨a0, len0, cap0, rfl⟩ := okWide_slice Try.underlying22 (hval 0 22 v0 rfl rfl)
  have k0 := h0
  have lt0 : ∀ x ∈ p0, x.block < W.heap.size := by obtain ⟨m, hm⟩ := k0; exact DataW.trod_lt m _ _ _ hm
  obtain ⟨z0, w0⟩ : ∃ zs, IsRow .i64 W a0 len0 cap0 zs := by
    obtain ⟨fuel, hf⟩ := h0
    rcases open_ints Try.underlying22 Try.underlying3 (by kernel_rfl) hf with ⟨hcs, _⟩ | ⟨x, l, c, zs, hcs, _, hl, hm, hz, _, hcell, hwz⟩
    · simp [Value.cells] at hcs
      obtain ⟨rfl, rfl, rfl⟩ := hcs
      exact ⟨[], .inl ⟨rfl, rfl, rfl, rfl⟩⟩
    · simp [Value.cells] at hcs
      obtain ⟨rfl, rfl, rfl⟩ := hcs
      exact ⟨zs, .inr ⟨_, rfl, hl, hm, by simpa using hz, hcell, hwz⟩⟩
  obtain ⟨a1, len1, cap1, rfl⟩ := okWide_slice Try.underlying22 (hval 1 22 v1 rfl rfl)
  have k1 := h1
  have lt1 : ∀ x ∈ p1, x.block < W.heap.size := by obtain ⟨m, hm⟩ := k1; exact DataW.trod_lt m _ _ _ hm
  obtain ⟨z1, w1⟩ : ∃ zs, IsRow .i64 W a1 len1 cap1 zs := by
    obtain ⟨fuel, hf⟩ := h1
    rcases open_ints Try.underlying22 Try.underlying3 (by kernel_rfl) hf with ⟨hcs, _⟩ | ⟨x, l, c, zs, hcs, _, hl, hm, hz, _, hcell, hwz⟩
    · simp [Value.cells] at hcs
      obtain ⟨rfl, rfl, rfl⟩ := hcs
      exact ⟨[], .inl ⟨rfl, rfl, rfl, rfl⟩⟩
    · simp [Value.cells] at hcs
      obtain ⟨rfl, rfl, rfl⟩ := hcs
      exact ⟨zs, .inr ⟨_, rfl, hl, hm, by simpa using hz, hcell, hwz⟩⟩
  obtain ⟨a2, rfl, rfl, rfl, w2⟩ := open_int Try.underlying3 (hval 2 3 v2 rfl rfl) h2
  clear hA0 hval0
  refine (walk a0 len0 cap0 z0 a1 len1 cap1 z1 a2 W w0 w1 w2).mono fun e W' ⟨he, bel⟩ => ?_
  subst he
  exact ⟨_, rfl, _, _, _, [], _, [], hW', trodAll_mk1 (shut_bool Try.underlying4 _), (trodAll_cons_mk (Below.trod laidOut (by kernel_rfl) (of_decide_eq_true (by kernel_rfl)) k0 bel lt0) (trodAll_cons_mk (Below.trod laidOut (by kernel_rfl) (of_decide_eq_true (by kernel_rfl)) k1 bel lt1) (trodAll_cons_mk (shut_int Try.underlying3 w2) trodAll_mk0))), rfl, bel.frame _, fun h => by cases h⟩

theorem over : Rows.fnForgetDeletesExactlyOneRow.holds Try.pinned (OpenSpec.ofChange Rows.fnForgetDeletesExactlyOneSpec) :=
  OpenClaim.holds_of_wide 3 Try.f3 rfl rfl rfl rfl rfl rfl rfl ⟨rfl, rfl, rfl, rfl, rfl⟩ rfl rfl rfl rfl rfl (by kernel_rfl) Try.func3 (by kernel_rfl)
    (of_decide_eq_true (by kernel_rfl)) (by unfold Func.isWrapper; first | (rw [if_pos (by decide +kernel)]; kernel_rfl) | (rw [if_neg (by decide +kernel)]; exact ⟨rfl, rfl⟩))
    (fun os started H enc _ => lifted os started H enc)

/-- ████ THE STATEMENT ████ -/
theorem proved : Rows.FnForgetDeletesExactlyOneSaid := over
end Go.Proofs.Qxb6630908a.fnForgetDeletesExactlyOne
