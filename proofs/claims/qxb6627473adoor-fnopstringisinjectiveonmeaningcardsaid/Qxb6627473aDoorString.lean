/-
  (Op).String: the op's text.
-/
import Derived.Test.Qxb6627473aDoorShelf
import Derived.Test.Qxb6627473aDoorPlain
import Derived.WalkKit
import Derived.WalkSpells
import Derived.Deep.RegionHeld3
namespace Go.Proofs.Qxb6627473aDoor
open Go.RowKit
set_option linter.unusedVariables false

/-- What is carried: the boxed op's cells, the table, that nothing old has turned. -/
structure Good (w : World) (k t : Int) (key to : ByteArray) (v : Int) (nv : Bool) (W : World) : Prop where
  c0 : W.cell? ⟨w.heap.size, 0, none⟩ = some (.int .u8 k)
  c1 : W.cell? ⟨w.heap.size, 1, none⟩ = some (.int .i64 t)
  c2 : W.cell? ⟨w.heap.size, 2, none⟩ = some (.string key)
  c3 : W.cell? ⟨w.heap.size, 3, none⟩ = some (.string to)
  c4 : W.cell? ⟨w.heap.size, 4, none⟩ = some (.int .i64 v)
  c5 : W.cell? ⟨w.heap.size, 5, none⟩ = some (.bool nv)
  below : Below w.heap.size w W
  more : w.heap.size < W.heap.size
  tab : Tab W

theorem Good.later {w : World} {k t : Int} {key to : ByteArray} {v : Int} {nv : Bool} {W W' : World} (g : Good w k t key to v nv W) (h : Below W.heap.size W W') : Good w k t key to v nv W' :=
  ⟨(h.cell (p := ⟨w.heap.size, 0, none⟩) g.more).trans g.c0, (h.cell (p := ⟨w.heap.size, 1, none⟩) g.more).trans g.c1, (h.cell (p := ⟨w.heap.size, 2, none⟩) g.more).trans g.c2, (h.cell (p := ⟨w.heap.size, 3, none⟩) g.more).trans g.c3,
    (h.cell (p := ⟨w.heap.size, 4, none⟩) g.more).trans g.c4, (h.cell (p := ⟨w.heap.size, 5, none⟩) g.more).trans g.c5, g.below.trans (h.mono (Nat.le_of_lt g.more)), Nat.lt_of_lt_of_le g.more h.size, g.tab.later h⟩

theorem Good.drew {w : World} {k t : Int} {key to : ByteArray} {v : Int} {nv : Bool} {W : World} (g : Good w k t key to v nv W) : Good w k t key to v nv W.drew :=
  g.later ((Below.refl _ _).drew)

theorem good_start (w : World) (k t : Int) (key to : ByteArray) (v : Int) (nv : Bool) (ht : Tab w) : Good w k t key to v nv (w.alloc (.cells #[.int .u8 k, .int .i64 t, .string key, .string to, .int .i64 v, .bool nv] 25)) := by
  have hb : Below w.heap.size w (w.alloc (.cells #[.int .u8 k, .int .i64 t, .string key, .string to, .int .i64 v, .bool nv] 25)) := (Below.refl _ _).alloc (Nat.le_refl _) _
  exact ⟨by simp [go_sem], by simp [go_sem], by simp [go_sem], by simp [go_sem], by simp [go_sem], by simp [go_sem], hb, by simp, ht.later hb⟩

theorem ret_str {a b : ByteArray} (h : a = b) : Ending.returned (.string a) = .returned (.string b) := by rw [h]
theorem hideIt {p : Prop} (h : p) : Hid p := h

theorem bytes_of {a : ByteArray} {l : List UInt8} (h : a.data.toList = l) : a = bytes l := by
  apply ByteArray.ext
  apply Array.toList_inj.1
  rw [h]; simp [bytes]
theorem bytes_list (l : List UInt8) : (bytes l).data.toList = l := by simp [bytes]

set_option maxHeartbeats 1600000 in
theorem string_0 (t v : Int) (key to : ByteArray) (nv : Bool) (w : World) (T : ByteArray) (HT : Hid (T = bytes (Lib.itoa t))) (hT : T.size ≤ 21) (hk : key.size ≤ 1048576) (hto : to.size ≤ 1048576) (ht : Tab w)
    (HC : Hid (∀ W, Tab W → Calls Tryd.prog 11 #[.int .i64 t] W fun e w' => e = .returned (.string T) ∧ Below W.heap.size W w')) :
    Calls Tryd.prog 6 #[.agg #[.int .u8 0, .int .i64 t, .string key, .string to, .int .i64 v, .bool nv]] w fun e w' => e = .returned (.string (bytes (text ⟨0, t, key.data.toList, to.data.toList, v, nv⟩))) ∧ Below w.heap.size w w' := by
  have g0 := good_start w 0 t key to v nv ht
  have G0 := hideIt g0
  clear g0 ht
  have hsl : ∀ W : World, (Instr.slice 9 (.string ⟨#[45, 114, 119, 99, 97, 100, 115]⟩) (some (.int .u8 0)) (some (.int .u8 1)) none).run Tryd.prog W = .ok (.string ⟨#[45]⟩) W := fun _ => by kernel_rfl
  have hwr : IntKind.u8.wrap 1 = 1 := by decide
  have hsum : ¬ 9223372036854775807 < 1 + T.size := by omega
  go_enter Tryd.func6, Tryd.ntmps6
  go_wp2
  go_region_held3 (fun W => W.cell? ⟨w.heap.size, 0, none⟩ = some (.int .u8 0) ∧ W.cell? ⟨w.heap.size, 1, none⟩ = some (.int .i64 t) ∧ Good w 0 t key to v nv W)
    (first | exact ⟨G0.out.c0, G0.out.c1, G0.out.drew⟩ | exact ⟨((G0.out.drew).later hb1).c0, ((G0.out.drew).later hb1).c1, (G0.out.drew).later hb1⟩)
    ((go_at_call 11; refine Calls.mono (HC.out _ ?_) ?_; exact (G0.out.drew).tab; rintro e W1 ⟨rfl, hb1⟩))
  have hg := (G0.out.drew).later hb1
  have cc0 := hg.c0
  have cc2 := hg.c2
  have cc3 := hg.c3
  have cc4 := hg.c4
  have cc5 := hg.c5
  have HB := hideIt hg
  clear hg hb1 G0 hsl hwr hsum HC
  go_wp2
  go_ret
  exact ⟨ret_str (bytes_of (by rw [HT.out]; simp [ByteArray.data_append, text, letter, tail, bytes_list])), HB.out.below⟩

set_option maxHeartbeats 1600000 in
theorem string_1 (t v : Int) (key to : ByteArray) (nv : Bool) (w : World) (T : ByteArray) (HT : Hid (T = bytes (Lib.itoa t))) (hT : T.size ≤ 21) (hk : key.size ≤ 1048576) (hto : to.size ≤ 1048576) (ht : Tab w)
    (HC : Hid (∀ W, Tab W → Calls Tryd.prog 11 #[.int .i64 t] W fun e w' => e = .returned (.string T) ∧ Below W.heap.size W w')) :
    Calls Tryd.prog 6 #[.agg #[.int .u8 1, .int .i64 t, .string key, .string to, .int .i64 v, .bool nv]] w fun e w' => e = .returned (.string (bytes (text ⟨1, t, key.data.toList, to.data.toList, v, nv⟩))) ∧ Below w.heap.size w w' := by
  have g0 := good_start w 1 t key to v nv ht
  have G0 := hideIt g0
  clear g0 ht
  have hsl : ∀ W : World, (Instr.slice 9 (.string ⟨#[45, 114, 119, 99, 97, 100, 115]⟩) (some (.int .u8 1)) (some (.int .u8 2)) none).run Tryd.prog W = .ok (.string ⟨#[114]⟩) W := fun _ => by kernel_rfl
  have hwr : IntKind.u8.wrap 2 = 2 := by decide
  have hsum : ¬ 9223372036854775807 < 1 + T.size := by omega
  go_enter Tryd.func6, Tryd.ntmps6
  go_wp2
  go_region_held3 (fun W => W.cell? ⟨w.heap.size, 0, none⟩ = some (.int .u8 1) ∧ W.cell? ⟨w.heap.size, 1, none⟩ = some (.int .i64 t) ∧ Good w 1 t key to v nv W)
    (first | exact ⟨G0.out.c0, G0.out.c1, G0.out.drew⟩ | exact ⟨((G0.out.drew).later hb1).c0, ((G0.out.drew).later hb1).c1, (G0.out.drew).later hb1⟩)
    ((go_at_call 11; refine Calls.mono (HC.out _ ?_) ?_; exact (G0.out.drew).tab; rintro e W1 ⟨rfl, hb1⟩))
  have hg := (G0.out.drew).later hb1
  have cc0 := hg.c0
  have cc2 := hg.c2
  have cc3 := hg.c3
  have cc4 := hg.c4
  have cc5 := hg.c5
  have HB := hideIt hg
  clear hg hb1 G0 hsl hwr hsum HC
  go_wp2
  go_ret
  exact ⟨ret_str (bytes_of (by rw [HT.out]; simp [ByteArray.data_append, text, letter, tail, bytes_list])), HB.out.below⟩

set_option maxHeartbeats 1600000 in
theorem string_2n (t v : Int) (key to : ByteArray) (w : World) (T : ByteArray) (HT : Hid (T = bytes (Lib.itoa t))) (hT : T.size ≤ 21) (hk : key.size ≤ 1048576) (hto : to.size ≤ 1048576) (ht : Tab w)
    (HC : Hid (∀ W, Tab W → Calls Tryd.prog 11 #[.int .i64 t] W fun e w' => e = .returned (.string T) ∧ Below W.heap.size W w')) :
    Calls Tryd.prog 6 #[.agg #[.int .u8 2, .int .i64 t, .string key, .string to, .int .i64 v, .bool true]] w fun e w' => e = .returned (.string (bytes (text ⟨2, t, key.data.toList, to.data.toList, v, true⟩))) ∧ Below w.heap.size w w' := by
  have g0 := good_start w 2 t key to v true ht
  have G0 := hideIt g0
  clear g0 ht
  have hsl : ∀ W : World, (Instr.slice 9 (.string ⟨#[45, 114, 119, 99, 97, 100, 115]⟩) (some (.int .u8 2)) (some (.int .u8 3)) none).run Tryd.prog W = .ok (.string ⟨#[119]⟩) W := fun _ => by kernel_rfl
  have hwr : IntKind.u8.wrap 3 = 3 := by decide
  have hsum : ¬ 9223372036854775807 < 1 + T.size := by omega
  go_enter Tryd.func6, Tryd.ntmps6
  go_wp2
  go_region_held3 (fun W => W.cell? ⟨w.heap.size, 0, none⟩ = some (.int .u8 2) ∧ W.cell? ⟨w.heap.size, 1, none⟩ = some (.int .i64 t) ∧ Good w 2 t key to v true W)
    (first | exact ⟨G0.out.c0, G0.out.c1, G0.out.drew⟩ | exact ⟨((G0.out.drew).later hb1).c0, ((G0.out.drew).later hb1).c1, (G0.out.drew).later hb1⟩)
    ((go_at_call 11; refine Calls.mono (HC.out _ ?_) ?_; exact (G0.out.drew).tab; rintro e W1 ⟨rfl, hb1⟩))
  have hg := (G0.out.drew).later hb1
  have cc0 := hg.c0
  have cc2 := hg.c2
  have cc3 := hg.c3
  have cc4 := hg.c4
  have cc5 := hg.c5
  have HB := hideIt hg
  clear hg hb1 G0 hsl hwr hsum HC
  go_wp2
  go_ret
  exact ⟨ret_str (bytes_of (by rw [HT.out]; simp [ByteArray.data_append, text, letter, tail, bytes_list])), HB.out.below⟩

set_option maxHeartbeats 1600000 in
theorem string_2v (t v : Int) (key to : ByteArray) (w : World) (T : ByteArray) (HT : Hid (T = bytes (Lib.itoa t))) (hT : T.size ≤ 21) (TV : ByteArray) (HTV : Hid (TV = bytes (Lib.itoa v))) (hTV : TV.size ≤ 21) (hk : key.size ≤ 1048576) (hto : to.size ≤ 1048576) (ht : Tab w)
    (HC : Hid (∀ W, Tab W → Calls Tryd.prog 11 #[.int .i64 t] W fun e w' => e = .returned (.string T) ∧ Below W.heap.size W w'))
    (HCV : Hid (∀ W, Tab W → Calls Tryd.prog 12 #[.int .i64 v, .int .i64 10] W fun e w' => e = .returned (.string TV) ∧ Below W.heap.size W w')) :
    Calls Tryd.prog 6 #[.agg #[.int .u8 2, .int .i64 t, .string key, .string to, .int .i64 v, .bool false]] w fun e w' => e = .returned (.string (bytes (text ⟨2, t, key.data.toList, to.data.toList, v, false⟩))) ∧ Below w.heap.size w w' := by
  have g0 := good_start w 2 t key to v false ht
  have G0 := hideIt g0
  clear g0 ht
  have hsl : ∀ W : World, (Instr.slice 9 (.string ⟨#[45, 114, 119, 99, 97, 100, 115]⟩) (some (.int .u8 2)) (some (.int .u8 3)) none).run Tryd.prog W = .ok (.string ⟨#[119]⟩) W := fun _ => by kernel_rfl
  have hwr : IntKind.u8.wrap 3 = 3 := by decide
  have hsum : ¬ 9223372036854775807 < 1 + T.size := by omega
  go_enter Tryd.func6, Tryd.ntmps6
  go_wp2
  go_region_held3 (fun W => W.cell? ⟨w.heap.size, 0, none⟩ = some (.int .u8 2) ∧ W.cell? ⟨w.heap.size, 1, none⟩ = some (.int .i64 t) ∧ Good w 2 t key to v false W)
    (first | exact ⟨G0.out.c0, G0.out.c1, G0.out.drew⟩ | exact ⟨((G0.out.drew).later hb1).c0, ((G0.out.drew).later hb1).c1, (G0.out.drew).later hb1⟩)
    ((go_at_call 11; refine Calls.mono (HC.out _ ?_) ?_; exact (G0.out.drew).tab; rintro e W1 ⟨rfl, hb1⟩))
  have hg := (G0.out.drew).later hb1
  have cc0 := hg.c0
  have cc2 := hg.c2
  have cc3 := hg.c3
  have cc4 := hg.c4
  have cc5 := hg.c5
  have HB := hideIt hg
  clear hg hb1 G0 hsl hwr hsum HC
  have hsum1 : ¬ 9223372036854775807 < 1 + T.size + 1 + key.size := by omega
  have hsum2 : ¬ 9223372036854775807 < 1 + T.size + 1 + key.size + 1 := by omega
  have hsum3 : ¬ 9223372036854775807 < 1 + T.size + 1 + key.size + 1 + TV.size := by omega
  have hsum4 : ¬ 9223372036854775807 < 1 + T.size + 1 + key.size + 1 + TV.size + 1 := by omega
  have hsum5 : ¬ 9223372036854775807 < 1 + T.size + 1 := by omega
  go_wp2
  go_region_held3 (fun W => W.cell? ⟨w.heap.size, 2, none⟩ = some (.string key) ∧ W.cell? ⟨w.heap.size, 4, none⟩ = some (.int .i64 v) ∧ Good w 2 t key to v false W)
    (first | exact ⟨HB.out.c2, HB.out.c4, HB.out.drew⟩ | exact ⟨((HB.out.drew).later hb2).c2, ((HB.out.drew).later hb2).c4, (HB.out.drew).later hb2⟩)
    ((go_at_call 12; refine Calls.mono (HCV.out _ ?_) ?_; exact (HB.out.drew).tab; rintro e W2 ⟨rfl, hb2⟩))
  have HG := hideIt ((HB.out.drew).later hb2)
  clear hsum1 hsum2 hsum3 hsum4 hsum5
  go_wp2
  go_ret
  exact ⟨ret_str (bytes_of (by rw [HT.out, HTV.out]; simp [ByteArray.data_append, text, letter, tail, bytes_list])), HG.out.below⟩

set_option maxHeartbeats 1600000 in
theorem string_3 (t v : Int) (key to : ByteArray) (nv : Bool) (w : World) (T : ByteArray) (HT : Hid (T = bytes (Lib.itoa t))) (hT : T.size ≤ 21) (hk : key.size ≤ 1048576) (hto : to.size ≤ 1048576) (ht : Tab w)
    (HC : Hid (∀ W, Tab W → Calls Tryd.prog 11 #[.int .i64 t] W fun e w' => e = .returned (.string T) ∧ Below W.heap.size W w')) :
    Calls Tryd.prog 6 #[.agg #[.int .u8 3, .int .i64 t, .string key, .string to, .int .i64 v, .bool nv]] w fun e w' => e = .returned (.string (bytes (text ⟨3, t, key.data.toList, to.data.toList, v, nv⟩))) ∧ Below w.heap.size w w' := by
  have g0 := good_start w 3 t key to v nv ht
  have G0 := hideIt g0
  clear g0 ht
  have hsl : ∀ W : World, (Instr.slice 9 (.string ⟨#[45, 114, 119, 99, 97, 100, 115]⟩) (some (.int .u8 3)) (some (.int .u8 4)) none).run Tryd.prog W = .ok (.string ⟨#[99]⟩) W := fun _ => by kernel_rfl
  have hwr : IntKind.u8.wrap 4 = 4 := by decide
  have hsum : ¬ 9223372036854775807 < 1 + T.size := by omega
  go_enter Tryd.func6, Tryd.ntmps6
  go_wp2
  go_region_held3 (fun W => W.cell? ⟨w.heap.size, 0, none⟩ = some (.int .u8 3) ∧ W.cell? ⟨w.heap.size, 1, none⟩ = some (.int .i64 t) ∧ Good w 3 t key to v nv W)
    (first | exact ⟨G0.out.c0, G0.out.c1, G0.out.drew⟩ | exact ⟨((G0.out.drew).later hb1).c0, ((G0.out.drew).later hb1).c1, (G0.out.drew).later hb1⟩)
    ((go_at_call 11; refine Calls.mono (HC.out _ ?_) ?_; exact (G0.out.drew).tab; rintro e W1 ⟨rfl, hb1⟩))
  have hg := (G0.out.drew).later hb1
  have cc0 := hg.c0
  have cc2 := hg.c2
  have cc3 := hg.c3
  have cc4 := hg.c4
  have cc5 := hg.c5
  have HB := hideIt hg
  clear hg hb1 G0 hsl hwr hsum HC
  go_wp2
  go_ret
  exact ⟨ret_str (bytes_of (by rw [HT.out]; simp [ByteArray.data_append, text, letter, tail, bytes_list])), HB.out.below⟩

set_option maxHeartbeats 1600000 in
theorem string_4 (t v : Int) (key to : ByteArray) (nv : Bool) (w : World) (T : ByteArray) (HT : Hid (T = bytes (Lib.itoa t))) (hT : T.size ≤ 21) (hk : key.size ≤ 1048576) (hto : to.size ≤ 1048576) (ht : Tab w)
    (HC : Hid (∀ W, Tab W → Calls Tryd.prog 11 #[.int .i64 t] W fun e w' => e = .returned (.string T) ∧ Below W.heap.size W w')) :
    Calls Tryd.prog 6 #[.agg #[.int .u8 4, .int .i64 t, .string key, .string to, .int .i64 v, .bool nv]] w fun e w' => e = .returned (.string (bytes (text ⟨4, t, key.data.toList, to.data.toList, v, nv⟩))) ∧ Below w.heap.size w w' := by
  have g0 := good_start w 4 t key to v nv ht
  have G0 := hideIt g0
  clear g0 ht
  have hsl : ∀ W : World, (Instr.slice 9 (.string ⟨#[45, 114, 119, 99, 97, 100, 115]⟩) (some (.int .u8 4)) (some (.int .u8 5)) none).run Tryd.prog W = .ok (.string ⟨#[97]⟩) W := fun _ => by kernel_rfl
  have hwr : IntKind.u8.wrap 5 = 5 := by decide
  have hsum : ¬ 9223372036854775807 < 1 + T.size := by omega
  go_enter Tryd.func6, Tryd.ntmps6
  go_wp2
  go_region_held3 (fun W => W.cell? ⟨w.heap.size, 0, none⟩ = some (.int .u8 4) ∧ W.cell? ⟨w.heap.size, 1, none⟩ = some (.int .i64 t) ∧ Good w 4 t key to v nv W)
    (first | exact ⟨G0.out.c0, G0.out.c1, G0.out.drew⟩ | exact ⟨((G0.out.drew).later hb1).c0, ((G0.out.drew).later hb1).c1, (G0.out.drew).later hb1⟩)
    ((go_at_call 11; refine Calls.mono (HC.out _ ?_) ?_; exact (G0.out.drew).tab; rintro e W1 ⟨rfl, hb1⟩))
  have hg := (G0.out.drew).later hb1
  have cc0 := hg.c0
  have cc2 := hg.c2
  have cc3 := hg.c3
  have cc4 := hg.c4
  have cc5 := hg.c5
  have HB := hideIt hg
  clear hg hb1 G0 hsl hwr hsum HC
  go_wp2
  go_ret
  exact ⟨ret_str (bytes_of (by rw [HT.out]; simp [ByteArray.data_append, text, letter, tail, bytes_list])), HB.out.below⟩

set_option maxHeartbeats 1600000 in
theorem string_5 (t v : Int) (key to : ByteArray) (nv : Bool) (w : World) (T : ByteArray) (HT : Hid (T = bytes (Lib.itoa t))) (hT : T.size ≤ 21) (hk : key.size ≤ 1048576) (hto : to.size ≤ 1048576) (ht : Tab w)
    (HC : Hid (∀ W, Tab W → Calls Tryd.prog 11 #[.int .i64 t] W fun e w' => e = .returned (.string T) ∧ Below W.heap.size W w')) :
    Calls Tryd.prog 6 #[.agg #[.int .u8 5, .int .i64 t, .string key, .string to, .int .i64 v, .bool nv]] w fun e w' => e = .returned (.string (bytes (text ⟨5, t, key.data.toList, to.data.toList, v, nv⟩))) ∧ Below w.heap.size w w' := by
  have g0 := good_start w 5 t key to v nv ht
  have G0 := hideIt g0
  clear g0 ht
  have hsl : ∀ W : World, (Instr.slice 9 (.string ⟨#[45, 114, 119, 99, 97, 100, 115]⟩) (some (.int .u8 5)) (some (.int .u8 6)) none).run Tryd.prog W = .ok (.string ⟨#[100]⟩) W := fun _ => by kernel_rfl
  have hwr : IntKind.u8.wrap 6 = 6 := by decide
  have hsum : ¬ 9223372036854775807 < 1 + T.size := by omega
  go_enter Tryd.func6, Tryd.ntmps6
  go_wp2
  go_region_held3 (fun W => W.cell? ⟨w.heap.size, 0, none⟩ = some (.int .u8 5) ∧ W.cell? ⟨w.heap.size, 1, none⟩ = some (.int .i64 t) ∧ Good w 5 t key to v nv W)
    (first | exact ⟨G0.out.c0, G0.out.c1, G0.out.drew⟩ | exact ⟨((G0.out.drew).later hb1).c0, ((G0.out.drew).later hb1).c1, (G0.out.drew).later hb1⟩)
    ((go_at_call 11; refine Calls.mono (HC.out _ ?_) ?_; exact (G0.out.drew).tab; rintro e W1 ⟨rfl, hb1⟩))
  have hg := (G0.out.drew).later hb1
  have cc0 := hg.c0
  have cc2 := hg.c2
  have cc3 := hg.c3
  have cc4 := hg.c4
  have cc5 := hg.c5
  have HB := hideIt hg
  clear hg hb1 G0 hsl hwr hsum HC
  go_wp2
  go_ret
  exact ⟨ret_str (bytes_of (by rw [HT.out]; simp [ByteArray.data_append, text, letter, tail, bytes_list])), HB.out.below⟩

set_option maxHeartbeats 1600000 in
theorem string_6 (t v : Int) (key to : ByteArray) (nv : Bool) (w : World) (T : ByteArray) (HT : Hid (T = bytes (Lib.itoa t))) (hT : T.size ≤ 21) (hk : key.size ≤ 1048576) (hto : to.size ≤ 1048576) (ht : Tab w)
    (HC : Hid (∀ W, Tab W → Calls Tryd.prog 11 #[.int .i64 t] W fun e w' => e = .returned (.string T) ∧ Below W.heap.size W w')) :
    Calls Tryd.prog 6 #[.agg #[.int .u8 6, .int .i64 t, .string key, .string to, .int .i64 v, .bool nv]] w fun e w' => e = .returned (.string (bytes (text ⟨6, t, key.data.toList, to.data.toList, v, nv⟩))) ∧ Below w.heap.size w w' := by
  have g0 := good_start w 6 t key to v nv ht
  have G0 := hideIt g0
  clear g0 ht
  have hsl : ∀ W : World, (Instr.slice 9 (.string ⟨#[45, 114, 119, 99, 97, 100, 115]⟩) (some (.int .u8 6)) (some (.int .u8 7)) none).run Tryd.prog W = .ok (.string ⟨#[115]⟩) W := fun _ => by kernel_rfl
  have hwr : IntKind.u8.wrap 7 = 7 := by decide
  have hsum : ¬ 9223372036854775807 < 1 + T.size := by omega
  go_enter Tryd.func6, Tryd.ntmps6
  go_wp2
  go_region_held3 (fun W => W.cell? ⟨w.heap.size, 0, none⟩ = some (.int .u8 6) ∧ W.cell? ⟨w.heap.size, 1, none⟩ = some (.int .i64 t) ∧ Good w 6 t key to v nv W)
    (first | exact ⟨G0.out.c0, G0.out.c1, G0.out.drew⟩ | exact ⟨((G0.out.drew).later hb1).c0, ((G0.out.drew).later hb1).c1, (G0.out.drew).later hb1⟩)
    ((go_at_call 11; refine Calls.mono (HC.out _ ?_) ?_; exact (G0.out.drew).tab; rintro e W1 ⟨rfl, hb1⟩))
  have hg := (G0.out.drew).later hb1
  have cc0 := hg.c0
  have cc2 := hg.c2
  have cc3 := hg.c3
  have cc4 := hg.c4
  have cc5 := hg.c5
  have HB := hideIt hg
  clear hg hb1 G0 hsl hwr hsum HC
  go_wp2
  go_ret
  exact ⟨ret_str (bytes_of (by rw [HT.out]; simp [ByteArray.data_append, text, letter, tail, bytes_list])), HB.out.below⟩

theorem bytes_size (l : List UInt8) : (bytes l).size = l.length := by simp [bytes, ByteArray.size]

/-- THE OP's TEXT, whatever the op. -/
theorem string_any (k t v : Int) (key to : ByteArray) (nv : Bool) (w : World) (hk0 : 0 ≤ k) (hk6 : k ≤ 6) (ht0 : -9223372036854775808 ≤ t) (ht1 : t ≤ 9223372036854775807) (hv0 : -9223372036854775808 ≤ v) (hv1 : v ≤ 9223372036854775807)
    (hk : key.size ≤ 1048576) (hto : to.size ≤ 1048576) (ht : Tab w) :
    Calls Tryd.prog 6 #[.agg #[.int .u8 k, .int .i64 t, .string key, .string to, .int .i64 v, .bool nv]] w fun e w' => e = .returned (.string (bytes (text ⟨k, t, key.data.toList, to.data.toList, v, nv⟩))) ∧ Below w.heap.size w w' := by
  have z1 : (bytes (Lib.itoa t)).size ≤ 21 := by rw [bytes_size]; exact itoa_len ht0 ht1
  have z2 : (bytes (Lib.itoa v)).size ≤ 21 := by rw [bytes_size]; exact itoa_len hv0 hv1
  have H1 := hideIt (fun W h => itoa_any t ht0 ht1 W h)
  have H2 := hideIt (fun W h => format_any v hv0 hv1 W h)
  have c : k = 0 ∨ k = 1 ∨ k = 2 ∨ k = 3 ∨ k = 4 ∨ k = 5 ∨ k = 6 := by omega
  rcases c with rfl | rfl | rfl | rfl | rfl | rfl | rfl
  · exact string_0 t v key to nv w _ (hideIt rfl) z1 hk hto ht H1
  · exact string_1 t v key to nv w _ (hideIt rfl) z1 hk hto ht H1
  · cases nv
    · exact string_2v t v key to w _ (hideIt rfl) z1 _ (hideIt rfl) z2 hk hto ht H1 H2
    · exact string_2n t v key to w _ (hideIt rfl) z1 hk hto ht H1
  · exact string_3 t v key to nv w _ (hideIt rfl) z1 hk hto ht H1
  · exact string_4 t v key to nv w _ (hideIt rfl) z1 hk hto ht H1
  · exact string_5 t v key to nv w _ (hideIt rfl) z1 hk hto ht H1
  · exact string_6 t v key to nv w _ (hideIt rfl) z1 hk hto ht H1

theorem text_len (o : Opn) (h0 : -9223372036854775808 ≤ o.t) (h1 : o.t ≤ 9223372036854775807) (h2 : -9223372036854775808 ≤ o.v) (h3 : o.v ≤ 9223372036854775807) : (text o).length ≤ 60 + o.key.length + o.to.length := by
  have a := itoa_len h0 h1
  have b := itoa_len h2 h3
  unfold text tail
  repeat' split
  all_goals simp
  all_goals omega
end Go.Proofs.Qxb6627473aDoor
