/-
  THE PROOF OF 'Rows.FnForgetOrderFreeAndIdempotentSaid': the kit's shell for this function, its walk filled in.
-/
import Derived.Test.Qxb6630908aRows
import Derived.WalkKit
import Derived.ProofKit
import Derived.OpenShut
import Derived.ShutString
import Derived.ChangeOld
import Derived.Below
import Derived.Test.Qxb6630908aAgrees
namespace Go.Proofs.Qxb6630908a.fnForgetOrderFreeAndIdempotent
open Go.ChangeShapes Go.WideShapes Go.ChangeAt Go.RowKit
open Go.ChangeMaps (open_string shut_string)
set_option linter.unusedVariables false

theorem own : ownKnob Try.prog.godebug = none := by kernel_rfl
theorem laidOut : laidOutB Try.prog = true := by kernel_rfl

/-- WHAT THE WALK IS TOLD OF A SLICE OF INTEGERS THAT CAME IN: it is nil; or it leads to a row of 'cap' cells, the numbers 'zs' (the first 'len' are its elements, the rest its spare room), each fitting its kind. -/
def IsRow (k : IntKind) (w : World) (a : Option Addr) (len cap : Nat) (zs : List Int) : Prop :=
  (a = none ∧ len = 0 ∧ cap = 0 ∧ zs = []) ∨
  ∃ x, a = some x ∧ len ≤ cap ∧ cap ≤ maxLen ∧ zs.length = cap ∧ (∀ i, i < zs.length → w.cell? (x.add i) = some (.int k (zs.getD i 0))) ∧ ∀ n ∈ zs, (Lit.int k n).wf = true

theorem isRow_row {w : World} {a : Option Addr} {len cap : Nat} {zs : List Int} (h : IsRow .i64 w a len cap zs) (hl : len ≤ 4096) : Row w a len zs := by
  rcases h with ⟨rfl, rfl, rfl, rfl⟩ | ⟨x, rfl, h1, h2, h3, h4, h5⟩
  · exact ⟨Nat.le_refl _, by omega, by simp, fun h => by omega⟩
  · refine ⟨by omega, hl, h5, fun hp => ?_⟩
    obtain ⟨b, off, rfl, hc⟩ := ints_at h4 (by omega)
    exact ⟨b, off, rfl, World.block_lt_of_cell? _ _ (hc 0 (by omega)), fun j hj => hc j (by omega)⟩

theorem bytes11_free (a0 : Option Addr) (len0 cap0 : Nat) (a1 : Option Addr) (len1 cap1 : Nat) (x y : Int) (w : World) (h0 : len0 ≤ 9223372036854775807) (h1 : len1 ≤ 9223372036854775807) :
    Calls Try.prog 11 #[.slice a0 len0 cap0, .slice a1 len1 cap1, .int .i64 x, .int .i64 y] w fun e w' => ∃ bo, e = .returned (.bool bo) ∧ w' = w := by
  go_enter Try.func11, Try.ntmps11
  go_wp2
  all_goals go_ret
  all_goals exact ⟨_, rfl, rfl⟩

theorem drewN_below {B : Nat} {w W : World} (h : Below B w W) (n : Nat) : Below B w (W.drewN n) := h.trans ⟨rfl, rfl, rfl, Nat.le_refl _, fun _ _ => rfl⟩

set_option maxHeartbeats 1600000 in
theorem two_nil (a0 : Option Addr) (cap0 : Nat) (a1 : Option Addr) (len1 cap1 : Nat) (a2 a3 : Int) (w : World) (h1 : len1 ≤ 4096) (w2 : (Lit.int .i64 a2).wf = true) (w3 : (Lit.int .i64 a3).wf = true) :
    Calls Try.prog 4 #[.slice a0 0 cap0, .slice a1 len1 cap1, .int .i64 a2, .int .i64 a3] w fun e w' => e = .returned (.bool true) ∧ Below w.heap.size w w' := by
  go_enter Try.func4, Try.ntmps4
  go_wp2_with (first
    | (go_at_call 11; refine (bytes11_any a0 0 cap0 a1 len1 cap1 a2 a3 _ (by omega) h1).mono ?_; rintro e w' ⟨rfl, hw⟩; obtain rfl := hw.symm)
    | (go_at_call 7; refine (build_none a0 cap0 a1 len1 cap1 _).mono ?_; rintro e w' ⟨rfl, hw⟩; obtain rfl := hw.symm)
    | (go_at_call 6; refine (newTable_any none _).mono ?_; rintro e w' ⟨rfl, rfl⟩))
  obtain ⟨W0, hW0⟩ : ∃ W0, W0 = (w.alloc (.cells #[.int .i32 0, .int .u32 0, .map none] 40)).alloc (.cells #[.int .i32 0, .int .u32 0, .map none] 40) := ⟨_, rfl⟩
  rw [← hW0]
  have hb : Below w.heap.size w W0 := by rw [hW0]; exact ((Below.refl _ _).alloc (Nat.le_refl _) _).alloc (by simp) _
  have t1 : Nab W0 w.heap.size := by rw [hW0]; exact ⟨by simp [go_sem], by simp [go_sem], by simp [go_sem]⟩
  have t2 : Nab W0 (w.heap.size + 1) := by rw [hW0]; exact ⟨by simp [go_sem], by simp [go_sem], by simp [go_sem]⟩
  clear hW0
  refine (forget_nil w.heap.size a2 _ t1 w2).mono ?_
  rintro e W1 ⟨rfl, t1', k⟩
  have t2' := t2.kept k (by omega)
  have hb' := k.below hb hb.size (Nat.le_refl _) (Nat.le_refl _)
  clear t1 t2 k hb
  go_wp2_with fail
  refine (forget_nil w.heap.size a3 _ t1' w3).mono ?_
  rintro e W2 ⟨rfl, t1, k⟩
  have t2 := t2'.kept k (by omega)
  have hb := k.below hb' hb'.size (Nat.le_refl _) (Nat.le_refl _)
  clear t1' t2' k hb'
  go_wp2_with fail
  refine (forget_nil (w.heap.size + 1) a3 _ t2 w3).mono ?_
  rintro e W3 ⟨rfl, t2', k⟩
  have t1' := t1.kept k (by omega)
  have hb' := k.below hb hb.size (by omega) (by omega)
  clear t1 t2 k hb
  go_wp2_with fail
  refine (forget_nil (w.heap.size + 1) a2 _ t2' w2).mono ?_
  rintro e W4 ⟨rfl, t2, k⟩
  have t1 := t1'.kept k (by omega)
  have hb := k.below hb' hb'.size (by omega) (by omega)
  clear t1' t2' k hb'
  go_wp2_with fail
  refine (forget_nil (w.heap.size + 1) a3 _ t2 w3).mono ?_
  rintro e W5 ⟨rfl, t2', k⟩
  have t1' := t1.kept k (by omega)
  have hb' := k.below hb hb.size (by omega) (by omega)
  have c1 := t1'.c2
  have c2 := t2'.c2
  clear t1 t2 k hb t1' t2'
  go_wp2_with fail
  refine (ages_any w.heap.size none _ c1).mono ?_
  rintro e w' ⟨rfl, hw⟩
  obtain rfl := hw.symm
  go_wp2_with fail
  refine (agrees_nil a0 cap0 a1 len1 cap1 a2 a3 _ w2 w3).mono ?_
  rintro e w' ⟨rfl, n, rfl⟩
  go_wp2_with fail
  refine (ages_any (w.heap.size + 1) none _ (by exact c2)).mono ?_
  rintro e w' ⟨rfl, hw⟩
  obtain rfl := hw.symm
  go_wp2_with fail
  refine (agrees_nil a0 cap0 a1 len1 cap1 a2 a3 _ w2 w3).mono ?_
  rintro e w' ⟨rfl, n2, rfl⟩
  go_wp2
  go_ret
  exact ⟨rfl, drewN_below hb' _⟩

set_option maxHeartbeats 1600000 in
theorem two_some (a0 : Option Addr) (len0 cap0 : Nat) (z0 : List Int) (a1 : Option Addr) (len1 cap1 : Nat) (z1 : List Int) (a2 a3 : Int) (w : World) (hp : 0 < len0) (r0 : Row w a0 len0 z0) (r1 : Row w a1 len1 z1) (w2 : (Lit.int .i64 a2).wf = true) (w3 : (Lit.int .i64 a3).wf = true) :
    Calls Try.prog 4 #[.slice a0 len0 cap0, .slice a1 len1 cap1, .int .i64 a2, .int .i64 a3] w fun e w' => e = .returned (.bool true) ∧ Below w.heap.size w w' := by
  obtain ⟨b, off, rfl, hb, hc⟩ := r0.cells hp
  have hl0 := r0.small
  have hl1 := r1.small
  have H0 := hideIt (show ∀ W, Below w.heap.size w W → ∀ j, j < len0 → W.cell? ⟨b, off + j, none⟩ = some (.int .i64 (z0.getD j 0)) from fun W h j hj => (h.cell (p := ⟨b, off + j, none⟩) hb).trans (hc j hj))
  have H1 := hideIt (show ∀ W, Below w.heap.size w W → Row W a1 len1 z1 from fun W h => r1.later h)
  have HW := hideIt r0.wf
  have HB := hideIt (show ∀ W, Below w.heap.size w W → Calls Try.prog 7 #[.slice (some ⟨b, off, none⟩) len0 cap0, .slice a1 len1 cap1] W fun e w' =>
      e = .returned (.map (some W.heap.size)) ∧ w'.ownsMap Try.prog 3 (plainElem Try.prog 3) W.heap.size len0 (bld z0 z1 len1 len0) ∧ Below W.heap.size W w' from
    fun W h => build_any b off len0 cap0 a1 len1 cap1 z0 z1 W hl0 hp (Nat.lt_of_lt_of_le hb h.size) (H1.out W h) HW.out (H0.out W h))
  clear hc r0 r1
  go_enter Try.func4, Try.ntmps4
  go_wp2_with (go_at_call 11; refine (bytes11_any _ len0 cap0 a1 len1 cap1 a2 a3 _ (by omega) (by omega)).mono ?_; rintro e w' ⟨rfl, hw⟩; obtain rfl := hw.symm)
  refine Calls.mono (HB.out w (Below.refl _ _)) ?_
  rintro e W1 ⟨rfl, hown1, hb1⟩
  go_wp2_with fail
  refine (newTable_any _ _).mono ?_
  rintro e W2 ⟨rfl, hW2⟩
  have hs1 := hb1.size
  have hlt1 := hown1.lt
  have hb2 : Below w.heap.size w W2 := by rw [hW2]; exact hb1.alloc hs1 _
  have t1 : Tab W2 W1.heap.size w.heap.size len0 (bld z0 z1 len1 len0) := by
    rw [hW2]; exact ⟨by simp [go_sem], by simp [go_sem], by simp [go_sem], by omega, hown1.alloc _⟩
  have hz2 : W2.heap.size = W1.heap.size + 1 := by rw [hW2]; simp
  have HZ2 := hideIt hz2
  clear hW2 hown1 hb1 hz2
  go_wp2_with fail
  refine Calls.mono (HB.out W2 hb2) ?_
  rintro e W3 ⟨rfl, hown3, hb3⟩
  go_wp2_with fail
  refine (newTable_any _ _).mono ?_
  rintro e W4 ⟨rfl, hW4⟩
  have hs3 := hb3.size
  have hlt3 := hown3.lt
  have e2 := HZ2.out
  have hb4 : Below w.heap.size w W4 := by rw [hW4]; exact (hb2.trans (hb3.mono hb2.size)).alloc (by omega) _
  have s1 : Tab W4 W1.heap.size w.heap.size len0 (bld z0 z1 len1 len0) := by
    rw [hW4]; exact (t1.below hb3).below ((Below.refl _ _).alloc (Nat.le_refl _) _)
  have s2 : Tab W4 W3.heap.size W2.heap.size len0 (bld z0 z1 len1 len0) := by
    rw [hW4]; exact ⟨by simp [go_sem], by simp [go_sem], by simp [go_sem], by omega, hown3.alloc _⟩
  obtain ⟨p1, hp1⟩ : ∃ p, p = W1.heap.size := ⟨_, rfl⟩
  obtain ⟨p2, hp2⟩ : ∃ p, p = W2.heap.size := ⟨_, rfl⟩
  obtain ⟨p3, hp3⟩ : ∃ p, p = W3.heap.size := ⟨_, rfl⟩
  have o1 : w.heap.size < p1 := by omega
  have o2 : p1 < p2 := by omega
  have o3 : p2 < p3 := by omega
  rw [← hp1] at s1
  rw [← hp2, ← hp3] at s2
  rw [← hp1, ← hp3]
  clear hW4 hown3 hb3 hs3 hlt3 e2 HZ2 t1 hb2 hlt1 hs1 hp1 hp2 hp3
  go_wp2_with fail
  refine (forget_any p1 w.heap.size len0 _ a2 _ s1 w2).mono ?_
  rintro e W5 ⟨rfl, s1', k⟩
  have s2' := s2.kept k (by omega) (by omega) (by omega) (by omega)
  have hb5 := k.below hb4 hb4.size (by omega) (by omega)
  clear s1 s2 k hb4
  go_wp2_with fail
  refine (forget_any p1 w.heap.size len0 _ a3 _ s1' w3).mono ?_
  rintro e W6 ⟨rfl, s1, k⟩
  have s2 := s2'.kept k (by omega) (by omega) (by omega) (by omega)
  have hb6 := k.below hb5 hb5.size (by omega) (by omega)
  clear s1' s2' k hb5
  go_wp2_with fail
  refine (forget_any p3 p2 len0 _ a3 _ s2 w3).mono ?_
  rintro e W7 ⟨rfl, s2', k⟩
  have s1' := s1.kept k (by omega) (by omega) (by omega) (by omega)
  have hb7 := k.below hb6 hb6.size (by omega) (by omega)
  clear s1 s2 k hb6
  go_wp2_with fail
  refine (forget_any p3 p2 len0 _ a2 _ s2' w2).mono ?_
  rintro e W8 ⟨rfl, s2, k⟩
  have s1 := s1'.kept k (by omega) (by omega) (by omega) (by omega)
  have hb8 := k.below hb7 hb7.size (by omega) (by omega)
  clear s1' s2' k hb7
  go_wp2_with fail
  refine (forget_any p3 p2 len0 _ a3 _ s2 w3).mono ?_
  rintro e W9 ⟨rfl, s2', k⟩
  have s1' := s1.kept k (by omega) (by omega) (by omega) (by omega)
  have hb9 := k.below hb8 hb8.size (by omega) (by omega)
  have c1 := s1'.c2
  have c2 := s2'.c2
  have HA := hideIt (agrees_any w.heap.size len0 b off len0 cap0 a1 len1 cap1 z0 z1 a2 a3 _ W9 s1'.own (agreed_two z0 z1 len0 len1 a2 a3) (H1.out W9 hb9) hl0 HW.out w2 w3 (H0.out W9 hb9))
  have HA2 := hideIt (show ∀ n, _ from fun n => agrees_any p2 len0 b off len0 cap0 a1 len1 cap1 z0 z1 a2 a3 _ (W9.drewN n) s2'.own (agreed_three z0 z1 len0 len1 a2 a3) (H1.out _ (drewN_below hb9 n)) hl0 HW.out w2 w3 (H0.out _ (drewN_below hb9 n)))
  clear s1 s2 k hb8 s1' s2' H0 H1 HW HB
  go_wp2_with fail
  refine (ages_any p1 _ _ c1).mono ?_
  rintro e w' ⟨rfl, hw⟩
  obtain rfl := hw.symm
  go_wp2_with fail
  refine Calls.mono HA.out ?_
  rintro e w' ⟨rfl, n, rfl⟩
  go_wp2_with fail
  refine (ages_any p3 (some p2) _ (by exact c2)).mono ?_
  rintro e w' ⟨rfl, hw⟩
  obtain rfl := hw.symm
  go_wp2_with fail
  refine Calls.mono (HA2.out n) ?_
  rintro e w' ⟨rfl, n2, rfl⟩
  go_wp2
  go_ret
  exact ⟨rfl, drewN_below hb9 _⟩

/-! ### STEP 1: THE WALK: the Go text returns true, AND WRITES NOTHING THAT WAS THERE: 'Below w.heap.size w w'' (Derived/Below.lean: '.refl', '.alloc', '.drew', '.setCell' at a new block, '.trans'). Open each 'IsRow' by 'rcases' AHEAD of 'go_enter'; part every test ahead of the walk. -/
theorem walk (a0 : Option Addr) (len0 cap0 : Nat) (z0 : List Int) (a1 : Option Addr) (len1 cap1 : Nat) (z1 : List Int) (a2 : Int) (a3 : Int) (w : World) (w0 : IsRow .i64 w a0 len0 cap0 z0) (w1 : IsRow .i64 w a1 len1 cap1 z1) (w2 : (Lit.int .i64 a2).wf = true) (w3 : (Lit.int .i64 a3).wf = true) :
    Calls Try.prog 4 #[.slice a0 len0 cap0, .slice a1 len1 cap1, .int .i64 a2, .int .i64 a3] w fun e w' => e = .returned (.bool true) ∧ Below w.heap.size w w' := by
  have hm0 : len0 ≤ maxLen := by rcases w0 with ⟨_, h, _, _⟩ | ⟨x, _, h1, h2, _⟩ <;> omega
  have hm1 : len1 ≤ maxLen := by rcases w1 with ⟨_, h, _, _⟩ | ⟨x, _, h1, h2, _⟩ <;> omega
  unfold maxLen at hm0 hm1
  by_cases hl0 : 4096 < len0
  · clear w0 w1
    go_enter Try.func4, Try.ntmps4
    go_wp2_with (go_at_call 11; refine (bytes11_free a0 len0 cap0 a1 len1 cap1 a2 a3 _ hm0 hm1).mono ?_; rintro e w' ⟨bo, rfl, rfl⟩)
    all_goals go_ret
    all_goals exact ⟨rfl, Below.refl _ _⟩
  by_cases hl1 : 4096 < len1
  · clear w0 w1
    go_enter Try.func4, Try.ntmps4
    go_wp2_with (go_at_call 11; refine (bytes11_free a0 len0 cap0 a1 len1 cap1 a2 a3 _ hm0 hm1).mono ?_; rintro e w' ⟨bo, rfl, rfl⟩)
    all_goals go_ret
    all_goals exact ⟨rfl, Below.refl _ _⟩
  have r0 : Row w a0 len0 z0 := isRow_row w0 (by omega)
  have r1 : Row w a1 len1 z1 := isRow_row w1 (by omega)
  clear w0 w1
  have hk0 : len0 ≤ 4096 := by omega
  have hk1 : len1 ≤ 4096 := by omega
  clear hm0 hm1
  by_cases h0 : len0 = 0
  · subst h0
    exact two_nil a0 cap0 a1 len1 cap1 a2 a3 w hk1 w2 w3
  · exact two_some a0 len0 cap0 z0 a1 len1 cap1 z1 a2 a3 w (by omega) r0 r1 w2 w3

/-! ### THE ROW's STEP: WRITTEN OUT: LEAVE IT -/
set_option maxRecDepth 100000 in
theorem lifted (os : Os) (started : os.Started) (H : Type) (enc : TypeId × Value → H) :
    ReturnsInHanded {} Try.checked os 4 .any (Rows.fnForgetOrderFreeAndIdempotentSpec.pre6 enc Try.prog Try.f4 Rows.fnForgetOrderFreeAndIdempotentRow.domain false) (Rows.fnForgetOrderFreeAndIdempotentSpec.post enc Try.prog Try.f4 false true false false) := by
  refine returnsInHanded_of_change (C := Try.checked) own started (by kernel_rfl) Try.func4
    (ChangeSpec.witness6 (enc := enc) (C := Try.checked) false ⟨#[], #[.slice none 0 0, .slice none 0 0, .int .i64 0, .int .i64 0], []⟩ 8 (by kernel_rfl) (by kernel_rfl) (by kernel_rfl) (by kernel_rfl)) ?_
  intro W base args ds gs before hval0 hW hcnd _
  have hval : ∀ (j : Nat) t v, Try.f4.params[j]? = some t → args[j]? = some v → Value.okWide Try.prog W .any base t v := hval0
  have hW' := hW
  obtain ⟨p, q, hA0, hV, rfl, hfz, hnd⟩ := hW
  have hA : DataW.TrodAll enc Try.prog W 0 (fun _ => true) true Try.f4.params.toList args.toList ds p := hA0
  rw [Try.params4] at hA hval
  obtain ⟨v0, vs0, d0, ds0, p0, q0, hargs, rfl, rfl, h0, r0⟩ := trodAll_cons hA
  obtain ⟨v1, vs1, d1, ds1, p1, q1, rfl, rfl, rfl, h1, r1⟩ := trodAll_cons r0
  obtain ⟨v2, vs2, d2, ds2, p2, q2, rfl, rfl, rfl, h2, r2⟩ := trodAll_cons r1
  obtain ⟨v3, vs3, d3, ds3, p3, q3, rfl, rfl, rfl, h3, r3⟩ := trodAll_cons r2
  obtain ⟨rfl, rfl, rfl⟩ := trodAll_nil r3
  obtain rfl : args = #[v0, v1, v2, v3] := by cases args; simp_all
  obtain ⟨rfl, rfl⟩ := trodVars_none hV
  obtain ⟨a0, len0, cap0, rfl⟩ := okWide_slice Try.underlying22 (hval 0 22 v0 rfl rfl)
  have k0 := h0
  have lt0 : ∀ x ∈ p0, x.block < W.heap.size := by obtain ⟨m, hm⟩ := k0; exact DataW.trod_lt m _ _ _ hm
  obtain ⟨z0, w0⟩ : ∃ zs, IsRow .i64 W a0 len0 cap0 zs := by
    obtain ⟨fuel, hf⟩ := h0
    rcases open_ints Try.underlying22 Try.underlying3 (by kernel_rfl) hf with ⟨hcs, _⟩ | ⟨x, l, c, zs, hcs, _, hl, hm, hz, _, hcell, hwz⟩
    · simp [Value.cells] at hcs
      obtain ⟨rfl, rfl, rfl⟩ := hcs
      exact ⟨[], .inl ⟨rfl, rfl, rfl, rfl⟩⟩
    · simp [Value.cells] at hcs
      obtain ⟨rfl, rfl, rfl⟩ := hcs
      exact ⟨zs, .inr ⟨_, rfl, hl, hm, by simpa using hz, hcell, hwz⟩⟩
  obtain ⟨a1, len1, cap1, rfl⟩ := okWide_slice Try.underlying22 (hval 1 22 v1 rfl rfl)
  have k1 := h1
  have lt1 : ∀ x ∈ p1, x.block < W.heap.size := by obtain ⟨m, hm⟩ := k1; exact DataW.trod_lt m _ _ _ hm
  obtain ⟨z1, w1⟩ : ∃ zs, IsRow .i64 W a1 len1 cap1 zs := by
    obtain ⟨fuel, hf⟩ := h1
    rcases open_ints Try.underlying22 Try.underlying3 (by kernel_rfl) hf with ⟨hcs, _⟩ | ⟨x, l, c, zs, hcs, _, hl, hm, hz, _, hcell, hwz⟩
    · simp [Value.cells] at hcs
      obtain ⟨rfl, rfl, rfl⟩ := hcs
      exact ⟨[], .inl ⟨rfl, rfl, rfl, rfl⟩⟩
    · simp [Value.cells] at hcs
      obtain ⟨rfl, rfl, rfl⟩ := hcs
      exact ⟨zs, .inr ⟨_, rfl, hl, hm, by simpa using hz, hcell, hwz⟩⟩
  obtain ⟨a2, rfl, rfl, rfl, w2⟩ := open_int Try.underlying3 (hval 2 3 v2 rfl rfl) h2
  obtain ⟨a3, rfl, rfl, rfl, w3⟩ := open_int Try.underlying3 (hval 3 3 v3 rfl rfl) h3
  clear hA0 hval0
  refine (walk a0 len0 cap0 z0 a1 len1 cap1 z1 a2 a3 W w0 w1 w2 w3).mono fun e W' ⟨he, bel⟩ => ?_
  subst he
  exact ⟨_, rfl, _, _, _, [], _, [], hW', trodAll_mk1 (shut_bool Try.underlying4 _), (trodAll_cons_mk (Below.trod laidOut (by kernel_rfl) (of_decide_eq_true (by kernel_rfl)) k0 bel lt0) (trodAll_cons_mk (Below.trod laidOut (by kernel_rfl) (of_decide_eq_true (by kernel_rfl)) k1 bel lt1) (trodAll_cons_mk (shut_int Try.underlying3 w2) (trodAll_cons_mk (shut_int Try.underlying3 w3) trodAll_mk0)))), rfl, bel.frame _, fun h => by cases h⟩

theorem over : Rows.fnForgetOrderFreeAndIdempotentRow.holds Try.pinned (OpenSpec.ofChange Rows.fnForgetOrderFreeAndIdempotentSpec) :=
  OpenClaim.holds_of_wide 4 Try.f4 rfl rfl rfl rfl rfl rfl rfl ⟨rfl, rfl, rfl, rfl, rfl⟩ rfl rfl rfl rfl rfl (by kernel_rfl) Try.func4 (by kernel_rfl)
    (of_decide_eq_true (by kernel_rfl)) (by unfold Func.isWrapper; first | (rw [if_pos (by decide +kernel)]; kernel_rfl) | (rw [if_neg (by decide +kernel)]; exact ⟨rfl, rfl⟩))
    (fun os started H enc _ => lifted os started H enc)

/-- ████ THE STATEMENT ████ -/
theorem proved : Rows.FnForgetOrderFreeAndIdempotentSaid := over
end Go.Proofs.Qxb6630908a.fnForgetOrderFreeAndIdempotent
