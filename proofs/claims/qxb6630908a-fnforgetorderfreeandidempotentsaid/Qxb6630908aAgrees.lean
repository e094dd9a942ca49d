/-
  zzAgrees.
-/
import Derived.Test.Qxb6630908aForget
import Derived.Test.Qxb6630908aExpect
import Derived.Test.Qxb6630908aCount
namespace Go.Proofs.Qxb6630908a
open Go.RowKit Go.Maps

theorem hideIt {p : Prop} (h : p) : Hid p := h
theorem Row.drewN {w : World} {a : Option Addr} {len : Nat} {zs : List Int} (r : Row w a len zs) (n : Nat) : Row (w.drewN n) a len zs := ⟨r.le, r.small, r.wf, r.cells⟩
theorem ownsMap_drewN {w : World} {bm n : Nat} {D : DataW Unit} (h : w.ownsMap Try.prog 3 (plainElem Try.prog 3) bm n D) (m : Nat) : (w.drewN m).ownsMap Try.prog 3 (plainElem Try.prog 3) bm n D := h

/-- What stands at key y in D is what zzExpect gives for y. -/
theorem expect_at (b off len0 cap0 : Nat) (a1 : Option Addr) (len1 cap1 : Nat) (zs vs : List Int) (g1 g2 y : Int) (D : DataW Unit) (w : World) (A : Agreed D zs vs len0 len1 g1 g2) (r1 : Row w a1 len1 vs) (hl : len0 ≤ 4096)
    (hc : ∀ j, j < len0 → w.cell? ⟨b, off + j, none⟩ = some (.int .i64 (zs.getD j 0))) :
    ∃ E B, Maps.has D (.int .i64 y) = B ∧ D.atKey (.int .i64 y) (.lit (.int .i64 0)) = .lit (.int .i64 E) ∧ ∀ n,
      Calls Try.prog 16 #[.slice (some ⟨b, off, none⟩) len0 cap0, .slice a1 len1 cap1, .int .i64 g1, .int .i64 g2, .int .i64 y] (w.drewN n) fun e w' => e = .returned (.tuple #[.int .i64 E, .bool B]) ∧ w' = w.drewN n := by
  by_cases h1 : y = g1
  · subst h1
    exact ⟨0, false, A.fst, atKey_of_not_has A.fst _, fun n => expect_gone1 _ _ _ _ _ _ _ _ _⟩
  · have h1' : (y == g1) = false := by simpa using h1
    by_cases h2 : y = g2
    · subst h2
      exact ⟨0, false, A.snd, atKey_of_not_has A.snd _, fun n => expect_gone2 _ _ _ _ _ _ _ _ _ h1'⟩
    · have h2' : (y == g2) = false := by simpa using h2
      exact ⟨_, _, A.hasAt y h1 h2, A.valAt y h1 h2, fun n => expect_any b off len0 cap0 a1 len1 cap1 zs vs g1 g2 y (w.drewN n) (r1.drewN n) hl hc h1' h2'⟩

set_option maxHeartbeats 1600000 in
theorem agrees_any (bm nm b off len0 cap0 : Nat) (a1 : Option Addr) (len1 cap1 : Nat) (zs vs : List Int) (g1 g2 : Int) (D : DataW Unit) (w : World) (hown : w.ownsMap Try.prog 3 (plainElem Try.prog 3) bm nm D)
    (A : Agreed D zs vs len0 len1 g1 g2) (r1 : Row w a1 len1 vs) (hl : len0 ≤ 4096) (hwz : ∀ n ∈ zs, (Lit.int .i64 n).wf = true) (hw1 : (Lit.int .i64 g1).wf = true) (hw2 : (Lit.int .i64 g2).wf = true)
    (hc : ∀ j, j < len0 → w.cell? ⟨b, off + j, none⟩ = some (.int .i64 (zs.getD j 0))) :
    Calls Try.prog 9 #[.map (some bm), .slice (some ⟨b, off, none⟩) len0 cap0, .slice a1 len1 cap1, .int .i64 g1, .int .i64 g2] w fun e w' => e = .returned (.bool true) ∧ ∃ n, w' = w.drewN n := by
  have hcnt := count_any b off len0 cap0 zs g1 g2 w hl hc
  have hsz := A.size
  have hf1 := A.fst
  have hf2 := A.snd
  have hexp := fun y => expect_at b off len0 cap0 a1 len1 cap1 zs vs g1 g2 y D w A r1 hl hc
  obtain ⟨C, hC⟩ : ∃ C, C = cnt [g1, g2] zs len0 len0 := ⟨_, rfl⟩
  rw [← hC] at hcnt hsz
  have HCC : Hid (∀ j, j < len0 → w.cell? ⟨b, off + j, none⟩ = some (.int .i64 (zs.getD j 0))) := hc
  have HE := hideIt hexp
  have HCN := hideIt hcnt
  clear hc hC A r1 hexp hcnt
  go_enter Try.func9, Try.ntmps9
  go_wp2_with (first
    | (at_len; refine wpList_len_own _ rfl _ 26 rfl 3 3 Try.underlying26 _ bm nm D rfl hown ?_)
    | (go_at_call 15; refine Calls.mono HCN.out ?_; rintro e w' ⟨rfl, n, rfl⟩)
    | (at_lookup; refine wpList_lookup_own_ok_int _ rfl _ _ 26 rfl 3 3 .i64 law3 Try.underlying26 Try.underlying3 (zero3 _) bm nm D rfl (ownsMap_drewN hown _) _ _ rfl (keyOf_int_mk Try.underlying3 (by first | exact hw1 | exact hw2)) ?_; intro c hat hwc; clear hat hwc))
  go_loop [15] (fun i => ∃ k : Nat, k ≤ len0 ∧ i = .int .i64 k) (fun i => len0 - (intOf i).toNat)
  case atStart => exact ⟨0, Nat.zero_le _, rfl⟩
  case round =>
    obtain ⟨k, hk, rfl⟩ := hrel
    by_cases hlt : k < len0
    · have hx := HCC.out k hlt
      have hwy := get_wf hwz k
      obtain ⟨y, hy⟩ : ∃ y, y = zs.getD k 0 := ⟨_, rfl⟩
      rw [← hy] at hx hwy
      clear hy
      obtain ⟨E, B, hB, hE, hcall⟩ := HE.out y
      have HX := hideIt hcall
      have HEE := hideIt hE
      clear hcall hE HE HCN HCC
      go_wp2_with (first
        | (at_lookup; refine wpList_lookup_own_ok_int _ rfl _ _ 26 rfl 3 3 .i64 law3 Try.underlying26 Try.underlying3 (zero3 _) bm nm D rfl (ownsMap_drewN hown _) _ _ rfl (keyOf_int_mk Try.underlying3 hwy) ?_; intro c hat hwc; have hce : (c != E) = false := by { have := hat.symm.trans HEE.out; simp at this; simp [this] }; clear hat hwc)
        | (go_at_call 16; refine Calls.mono (HX.out _) ?_; rintro e w' ⟨rfl, rfl⟩))
      go_round
      case rel => exact ⟨k + 1, by omega, by go_num⟩
      case measure => simp [intOf]; omega
    · clear HE HCN HCC
      go_wp2
      go_ret
      exact ⟨rfl, _, rfl⟩

set_option maxHeartbeats 1600000 in
theorem agrees_nil (a0 : Option Addr) (cap0 : Nat) (a1 : Option Addr) (len1 cap1 : Nat) (g1 g2 : Int) (w : World) (hw1 : (Lit.int .i64 g1).wf = true) (hw2 : (Lit.int .i64 g2).wf = true) :
    Calls Try.prog 9 #[.map none, .slice a0 0 cap0, .slice a1 len1 cap1, .int .i64 g1, .int .i64 g2] w fun e w' => e = .returned (.bool true) ∧ ∃ n, w' = w.drewN n := by
  have hln := fun ty => len_nil (w := w) Try.underlying26 ty
  have hr1 := look_nil (w := w) true law3 Try.underlying26 (zero3 _) (keyOf_int_mk Try.underlying3 hw1)
  have hr2 := look_nil (w := w) true law3 Try.underlying26 (zero3 _) (keyOf_int_mk Try.underlying3 hw2)
  go_enter Try.func9, Try.ntmps9
  go_wp2_with (go_at_call 15; refine (count_none a0 cap0 g1 g2 _).mono ?_; rintro e w' ⟨rfl, rfl⟩)
  refine wp_loop_rounds 1 ?_
  rw [rounds_succ]
  go_wp2
  go_ret
  exact ⟨rfl, 0, rfl⟩
end Go.Proofs.Qxb6630908a
