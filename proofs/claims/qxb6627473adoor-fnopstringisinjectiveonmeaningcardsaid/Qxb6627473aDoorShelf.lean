/-
  strconv.Itoa and strconv.FormatInt at base 10, by the shelf's contracts, at this program's numbers (laid by the kit's tools, in plain words).
-/
import Derived.Shelf.Strconv.Itoa0
import Derived.Shelf.Strconv.Itoa1
import Derived.Shelf.LaysM
import Derived.Shelf.Strconv.Itoa2
import Derived.Shelf.Strconv.Itoa3
import Derived.Shelf.Strconv.Itoa4
import Derived.Test.Qxb6627473aDoorRows
import Derived.Below
import Derived.WalkSmall
namespace Go.Proofs.Qxb6627473aDoor
open Go.Shelf Go.RowKit
/-- The name of the library's table of powers of ten, off the row's own list. -/
def tabName : String := Rows.fnOpStringAgreesWithReadFormRow.named.headD ""
theorem tab_global : Tryd.prog.globalNamed tabName = some (Tryd.prog.globalNamed tabName).get! := by kernel_rfl

def laysM171_ren : Go.Shelf.Ren := ⟨fun | 171 => 11 | 243 => 13 | 246 => 14 | 283 => 15 | 284 => 16 | 285 => 17 | 286 => 18 | 129 => 20 | 317 => 19 | 318 => 21 | 319 => 22 | 320 => 23 | 337 => 24 | 338 => 25 | n => n, fun | 3 => 3 | 9 => 9 | 2 => 2 | 4 => 4 | 171 => 35 | 0 => 0 | 53 => 32 | 37 => 34 | 5 => 5 | 173 => 38 | 212 => 42 | 51 => 43 | 20 => 20 | 213 => 44 | 46 => 46 | 232 => 49 | 233 => 50 | n => n, fun | 17 => 0 | 18 => 1 | 19 => 2 | n => n⟩
theorem laysM171 : Go.Proofs.LaysM.n171 Tryd.prog laysM171_ren := {
  mixed := by kernel_rfl
  f129 := Tryd.func20.trans (congrArg some (by kernel_rfl))
  f171 := Tryd.func11.trans (congrArg some (by kernel_rfl))
  f243 := Tryd.func13.trans (congrArg some (by kernel_rfl))
  f246 := Tryd.func14.trans (congrArg some (by kernel_rfl))
  f283 := Tryd.func15.trans (congrArg some (by kernel_rfl))
  f284 := Tryd.func16.trans (congrArg some (by kernel_rfl))
  f285 := Tryd.func17.trans (congrArg some (by kernel_rfl))
  f286 := Tryd.func18.trans (congrArg some (by kernel_rfl))
  f317 := Tryd.func19.trans (congrArg some (by kernel_rfl))
  f318 := Tryd.func21.trans (congrArg some (by kernel_rfl))
  f319 := Tryd.func22.trans (congrArg some (by kernel_rfl))
  f320 := Tryd.func23.trans (congrArg some (by kernel_rfl))
  f337 := Tryd.func24.trans (congrArg some (by kernel_rfl))
  f338 := Tryd.func25.trans (congrArg some (by kernel_rfl))
  t0 := Tryd.underlying0
  a0 := Tryd.isAgg0
  z0 := Tryd.sizeOf0
  v0 := Tryd.zeroValue0
  t2 := Tryd.underlying2
  a2 := Tryd.isAgg2
  z2 := Tryd.sizeOf2
  v2 := Tryd.zeroValue2
  t3 := Tryd.underlying3
  a3 := Tryd.isAgg3
  z3 := Tryd.sizeOf3
  v3 := Tryd.zeroValue3
  t4 := Tryd.underlying4
  a4 := Tryd.isAgg4
  z4 := Tryd.sizeOf4
  v4 := Tryd.zeroValue4
  t5 := Tryd.underlying5
  a5 := Tryd.isAgg5
  z5 := Tryd.sizeOf5
  v5 := Tryd.zeroValue5
  t9 := Tryd.underlying9
  a9 := Tryd.isAgg9
  z9 := Tryd.sizeOf9
  v9 := Tryd.zeroValue9
  t20 := Tryd.underlying20
  a20 := Tryd.isAgg20
  z20 := Tryd.sizeOf20
  v20 := Tryd.zeroValue20
  t37 := Tryd.underlying34
  a37 := Tryd.isAgg34
  z37 := Tryd.sizeOf34
  v37 := Tryd.zeroValue34
  t46 := Tryd.underlying46
  a46 := Tryd.isAgg46
  z46 := Tryd.sizeOf46
  v46 := Tryd.zeroValue46
  t51 := Tryd.underlying43
  a51 := Tryd.isAgg43
  z51 := Tryd.sizeOf43
  v51 := Tryd.zeroValue43
  t53 := Tryd.underlying32
  a53 := Tryd.isAgg32
  z53 := Tryd.sizeOf32
  v53 := Tryd.zeroValue32
  t171 := Tryd.underlying35
  a171 := Tryd.isAgg35
  z171 := Tryd.sizeOf35
  v171 := Tryd.zeroValue35
  t173 := Tryd.underlying38
  a173 := Tryd.isAgg38
  z173 := Tryd.sizeOf38
  v173 := Tryd.zeroValue38
  t212 := Tryd.underlying42
  a212 := Tryd.isAgg42
  z212 := Tryd.sizeOf42
  v212 := Tryd.zeroValue42
  t213 := Tryd.underlying44
  a213 := Tryd.isAgg44
  z213 := Tryd.sizeOf44
  t232 := Tryd.underlying49
  a232 := Tryd.isAgg49
  z232 := Tryd.sizeOf49
  v232 := Tryd.zeroValue49
  t233 := Tryd.underlying50
  a233 := Tryd.isAgg50
  z233 := Tryd.sizeOf50
  v233 := Tryd.zeroValue50
  g17 := by kernel_rfl
  g18 := by kernel_rfl
  g19 := by kernel_rfl
  i0 := by kernel_rfl
  i2 := by kernel_rfl
  i3 := by kernel_rfl
  i4 := by kernel_rfl
  i5 := by kernel_rfl
  i9 := by kernel_rfl
  i20 := by kernel_rfl
  i37 := by kernel_rfl
  i46 := by kernel_rfl
  i51 := by kernel_rfl
  i53 := by kernel_rfl
  i171 := by kernel_rfl
  i173 := by kernel_rfl
  i212 := by kernel_rfl
  i232 := by kernel_rfl
  i233 := by kernel_rfl
  m17 := by kernel_rfl
  m18 := by kernel_rfl
  m19 := by kernel_rfl }
open Go.Sort in
theorem strconv_Itoa (n : Int) (h0 : -9223372036854775808 ≤ n) (h1 : n ≤ 9223372036854775807) (w : World) (htab : Lib.TabIs Tryd.prog w tabName .u64 Lib.pow10Tab) :
    Calls Tryd.prog 11 #[.int .i64 n] w fun e w' => e = .returned (.string ⟨(Lib.itoa n).toArray⟩) ∧ ∃ k os, w' = grow (w.drewN k) os := Any.strconv_Itoa laysM171 n h0 h1 w htab
def laysM173_ren : Go.Shelf.Ren := ⟨fun | 173 => 12 | 246 => 14 | 283 => 15 | 284 => 16 | 285 => 17 | 286 => 18 | 129 => 20 | 317 => 19 | 318 => 21 | 319 => 22 | 320 => 23 | 337 => 24 | 338 => 25 | n => n, fun | 2 => 2 | 3 => 3 | 9 => 9 | 4 => 4 | 171 => 35 | 0 => 0 | 53 => 32 | 37 => 34 | 5 => 5 | 173 => 38 | 212 => 42 | 51 => 43 | 20 => 20 | 213 => 44 | 46 => 46 | 232 => 49 | 233 => 50 | n => n, fun | 17 => 0 | 18 => 1 | 19 => 2 | n => n⟩
theorem laysM173 : Go.Proofs.LaysM.n173 Tryd.prog laysM173_ren := {
  mixed := by kernel_rfl
  f129 := Tryd.func20.trans (congrArg some (by kernel_rfl))
  f173 := Tryd.func12.trans (congrArg some (by kernel_rfl))
  f246 := Tryd.func14.trans (congrArg some (by kernel_rfl))
  f283 := Tryd.func15.trans (congrArg some (by kernel_rfl))
  f284 := Tryd.func16.trans (congrArg some (by kernel_rfl))
  f285 := Tryd.func17.trans (congrArg some (by kernel_rfl))
  f286 := Tryd.func18.trans (congrArg some (by kernel_rfl))
  f317 := Tryd.func19.trans (congrArg some (by kernel_rfl))
  f318 := Tryd.func21.trans (congrArg some (by kernel_rfl))
  f319 := Tryd.func22.trans (congrArg some (by kernel_rfl))
  f320 := Tryd.func23.trans (congrArg some (by kernel_rfl))
  f337 := Tryd.func24.trans (congrArg some (by kernel_rfl))
  f338 := Tryd.func25.trans (congrArg some (by kernel_rfl))
  t0 := Tryd.underlying0
  a0 := Tryd.isAgg0
  z0 := Tryd.sizeOf0
  v0 := Tryd.zeroValue0
  t2 := Tryd.underlying2
  a2 := Tryd.isAgg2
  z2 := Tryd.sizeOf2
  v2 := Tryd.zeroValue2
  t3 := Tryd.underlying3
  a3 := Tryd.isAgg3
  z3 := Tryd.sizeOf3
  v3 := Tryd.zeroValue3
  t4 := Tryd.underlying4
  a4 := Tryd.isAgg4
  z4 := Tryd.sizeOf4
  v4 := Tryd.zeroValue4
  t5 := Tryd.underlying5
  a5 := Tryd.isAgg5
  z5 := Tryd.sizeOf5
  v5 := Tryd.zeroValue5
  t9 := Tryd.underlying9
  a9 := Tryd.isAgg9
  z9 := Tryd.sizeOf9
  v9 := Tryd.zeroValue9
  t20 := Tryd.underlying20
  a20 := Tryd.isAgg20
  z20 := Tryd.sizeOf20
  v20 := Tryd.zeroValue20
  t37 := Tryd.underlying34
  a37 := Tryd.isAgg34
  z37 := Tryd.sizeOf34
  v37 := Tryd.zeroValue34
  t46 := Tryd.underlying46
  a46 := Tryd.isAgg46
  z46 := Tryd.sizeOf46
  v46 := Tryd.zeroValue46
  t51 := Tryd.underlying43
  a51 := Tryd.isAgg43
  z51 := Tryd.sizeOf43
  v51 := Tryd.zeroValue43
  t53 := Tryd.underlying32
  a53 := Tryd.isAgg32
  z53 := Tryd.sizeOf32
  v53 := Tryd.zeroValue32
  t171 := Tryd.underlying35
  a171 := Tryd.isAgg35
  z171 := Tryd.sizeOf35
  v171 := Tryd.zeroValue35
  t173 := Tryd.underlying38
  a173 := Tryd.isAgg38
  z173 := Tryd.sizeOf38
  v173 := Tryd.zeroValue38
  t212 := Tryd.underlying42
  a212 := Tryd.isAgg42
  z212 := Tryd.sizeOf42
  v212 := Tryd.zeroValue42
  t213 := Tryd.underlying44
  a213 := Tryd.isAgg44
  z213 := Tryd.sizeOf44
  t232 := Tryd.underlying49
  a232 := Tryd.isAgg49
  z232 := Tryd.sizeOf49
  v232 := Tryd.zeroValue49
  t233 := Tryd.underlying50
  a233 := Tryd.isAgg50
  z233 := Tryd.sizeOf50
  v233 := Tryd.zeroValue50
  g17 := by kernel_rfl
  g18 := by kernel_rfl
  g19 := by kernel_rfl
  i0 := by kernel_rfl
  i2 := by kernel_rfl
  i3 := by kernel_rfl
  i4 := by kernel_rfl
  i5 := by kernel_rfl
  i9 := by kernel_rfl
  i20 := by kernel_rfl
  i37 := by kernel_rfl
  i46 := by kernel_rfl
  i51 := by kernel_rfl
  i53 := by kernel_rfl
  i171 := by kernel_rfl
  i173 := by kernel_rfl
  i212 := by kernel_rfl
  i232 := by kernel_rfl
  i233 := by kernel_rfl
  m17 := by kernel_rfl
  m18 := by kernel_rfl
  m19 := by kernel_rfl }
open Go.Sort in
theorem strconv_FormatInt_10 (n : Int) (h0 : -9223372036854775808 ≤ n) (h1 : n ≤ 9223372036854775807) (w : World) (htab : Lib.TabIs Tryd.prog w tabName .u64 Lib.pow10Tab) :
    Calls Tryd.prog 12 #[.int .i64 n, .int .i64 10] w fun e w' => e = .returned (.string ⟨(Lib.itoa n).toArray⟩) ∧ ∃ k os, w' = grow (w.drewN k) os := Any.strconv_FormatInt_10 laysM173 n h0 h1 w htab

/-- The library's table lies as its text lays it. -/
def Tab (w : World) : Prop := Lib.TabIs Tryd.prog w tabName .u64 Lib.pow10Tab

theorem Tab.later {w w' : World} (t : Tab w) (h : Below w.heap.size w w') : Tab w' := by
  unfold Tab Lib.TabIs at t ⊢
  refine var?_below h tab_global ?_ t
  unfold World.var? at t
  rw [tab_global, Option.bind_some] at t
  rcases Nat.lt_or_ge (Tryd.prog.globalNamed tabName).get! w.heap.size with hlt | hge
  · exact hlt
  · rw [Array.getElem?_eq_none hge] at t; simp at t

theorem below_grow (w : World) (k : Nat) (os : Array Obj) : Below w.heap.size w (Sort.grow (w.drewN k) os) := by
  refine ⟨rfl, rfl, rfl, ?_, fun i hi => ?_⟩
  · show w.heap.size ≤ (w.heap ++ os).size
    rw [Array.size_append]; omega
  · show (w.heap ++ os)[i]? = w.heap[i]?
    rw [Array.getElem?_append_left hi]

/-- A text from its bytes. -/
def bytes (l : List UInt8) : ByteArray := ⟨l.toArray⟩

theorem itoa_any (n : Int) (h0 : -9223372036854775808 ≤ n) (h1 : n ≤ 9223372036854775807) (w : World) (ht : Tab w) :
    Calls Tryd.prog 11 #[.int .i64 n] w fun e w' => e = .returned (.string (bytes (Lib.itoa n))) ∧ Below w.heap.size w w' :=
  (strconv_Itoa n h0 h1 w ht).mono fun e w' ⟨he, k, os, hw⟩ => ⟨he, by rw [hw]; exact below_grow w k os⟩

theorem format_any (n : Int) (h0 : -9223372036854775808 ≤ n) (h1 : n ≤ 9223372036854775807) (w : World) (ht : Tab w) :
    Calls Tryd.prog 12 #[.int .i64 n, .int .i64 10] w fun e w' => e = .returned (.string (bytes (Lib.itoa n))) ∧ Below w.heap.size w w' :=
  (strconv_FormatInt_10 n h0 h1 w ht).mono fun e w' ⟨he, k, os, hw⟩ => ⟨he, by rw [hw]; exact below_grow w k os⟩
end Go.Proofs.Qxb6627473aDoor
