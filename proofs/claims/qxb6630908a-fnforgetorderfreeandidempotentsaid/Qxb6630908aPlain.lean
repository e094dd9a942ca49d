/-
  THE PLAIN SIDE: what the pairs build, what is expected at a key, how many keys are left. No Go in sight.
-/
import Derived.Maps.Views
import Derived.Maps.Own
namespace Go.Proofs.Qxb6630908a
open Go.Maps Go.WideShapes

/-- zzVal: the i-th value, 0 where there are fewer. -/
def valAt (vs : List Int) (n i : Nat) : Int := if i < n then vs.getD i 0 else 0

/-- The map behind k rounds of zzBuild. -/
def bld (zs vs : List Int) (n : Nat) : Nat → DataW Unit
  | 0 => .map []
  | k + 1 => (bld zs vs n k).put (.int .i64 (zs.getD k 0)) (.lit (.int .i64 (valAt vs n k)))

/-- The last place ahead of k that names x. -/
def lastIdx (zs : List Int) (x : Int) : Nat → Option Nat
  | 0 => none
  | k + 1 => if zs.getD k 0 = x then some k else lastIdx zs x k

def valOf (vs : List Int) (n : Nat) : Option Nat → Int
  | some i => valAt vs n i
  | none => 0

/-- Is place i, ahead of n, the last that names its key? -/
def again (zs : List Int) (n i : Nat) : Prop := ∃ j, i < j ∧ j < n ∧ zs.getD j 0 = zs.getD i 0

def againB (zs : List Int) (n i : Nat) : Bool := (List.range n).any fun j => decide (i < j) && decide (zs.getD j 0 = zs.getD i 0)
theorem againB_iff (zs : List Int) (n i : Nat) : againB zs n i = true ↔ again zs n i := by
  unfold againB again
  simp only [List.any_eq_true, List.mem_range, Bool.and_eq_true, decide_eq_true_eq]
  exact ⟨fun ⟨j, h1, h2, h3⟩ => ⟨j, h2, h1, h3⟩, fun ⟨j, h1, h2, h3⟩ => ⟨j, h2, h1, h3⟩⟩

def one (G : List Int) (zs : List Int) (n i : Nat) : Nat := if zs.getD i 0 ∈ G ∨ againB zs n i = true then 0 else 1

def cnt (G : List Int) (zs : List Int) (n : Nat) : Nat → Nat
  | 0 => 0
  | k + 1 => cnt G zs n k + one G zs n k

theorem one_gone {G : List Int} {zs : List Int} {n i : Nat} (h : zs.getD i 0 ∈ G) : one G zs n i = 0 := by unfold one; rw [if_pos (Or.inl h)]
theorem one_again {G : List Int} {zs : List Int} {n i : Nat} (h : again zs n i) : one G zs n i = 0 := by unfold one; rw [if_pos (Or.inr ((againB_iff zs n i).2 h))]
theorem one_last {G : List Int} {zs : List Int} {n i : Nat} (h : ¬ zs.getD i 0 ∈ G) (h' : ¬ again zs n i) : one G zs n i = 1 := by unfold one; rw [if_neg (by simp only [not_or]; exact ⟨h, fun x => h' ((againB_iff zs n i).1 x)⟩)]

theorem one_le (G : List Int) (zs : List Int) (n i : Nat) : one G zs n i ≤ 1 := by unfold one; split <;> omega
theorem cnt_le (G : List Int) (zs : List Int) (n : Nat) : ∀ k, cnt G zs n k ≤ k
  | 0 => Nat.le_refl _
  | k + 1 => by have := cnt_le G zs n k; have := one_le G zs n k; simp only [cnt]; omega

theorem one_succ {G : List Int} {zs : List Int} {n i : Nat} (h : i < n) : one G zs (n + 1) i = one (zs.getD n 0 :: G) zs n i := by
  have e : (zs.getD i 0 ∈ G ∨ again zs (n + 1) i) ↔ (zs.getD i 0 ∈ zs.getD n 0 :: G ∨ again zs n i) := by
    constructor
    · rintro (h1 | ⟨j, hj1, hj2, hj3⟩)
      · exact Or.inl (List.mem_cons_of_mem _ h1)
      · by_cases hj : j = n
        · subst hj; exact Or.inl (by rw [hj3]; exact List.mem_cons_self)
        · exact Or.inr ⟨j, hj1, by omega, hj3⟩
    · rintro (h1 | ⟨j, hj1, hj2, hj3⟩)
      · rcases List.mem_cons.1 h1 with h1 | h1
        · exact Or.inr ⟨n, h, by omega, h1.symm⟩
        · exact Or.inl h1
      · exact Or.inr ⟨j, hj1, by omega, hj3⟩
  rw [← againB_iff, ← againB_iff] at e
  unfold one
  by_cases hh : zs.getD i 0 ∈ G ∨ againB zs (n + 1) i = true
  · rw [if_pos hh, if_pos (e.1 hh)]
  · rw [if_neg hh, if_neg (fun x => hh (e.2 x))]

theorem cnt_succ {G : List Int} {zs : List Int} {n : Nat} : ∀ k, k ≤ n → cnt G zs (n + 1) k = cnt (zs.getD n 0 :: G) zs n k
  | 0, _ => rfl
  | k + 1, h => by simp only [cnt]; rw [cnt_succ k (by omega), one_succ (by omega)]

theorem one_top (G : List Int) (zs : List Int) (n : Nat) : one G zs (n + 1) n = if zs.getD n 0 ∈ G then 0 else 1 := by
  by_cases h : zs.getD n 0 ∈ G
  · rw [one_gone h, if_pos h]
  · rw [one_last h (by rintro ⟨j, h1, h2, _⟩; omega), if_neg h]

/-! ### The map's size -/
def offB (G : List Int) (p : Lit × DataW Unit) : Bool := !(G.any fun g => p.1.sameKey (.int .i64 g))
def off (G : List Int) : DataW Unit → Nat
  | .map es => (es.filter (offB G)).length
  | _ => 0

theorem isKey_int {a : Int} : WideAt.IsKeyLit (.int .i64 a) := by unfold WideAt.IsKeyLit; trivial

theorem same_int (a b : Int) : (Lit.int .i64 a).sameKey (.int .i64 b) = decide (a = b) := by
  by_cases h : a = b
  · subst h
    rw [decide_eq_true rfl]; exact WideAt.sameKey_self isKey_int
  · rw [decide_eq_false h]; exact sameKey_ne (fun e => h (by cases e; rfl))

theorem offB_int (G : List Int) (x : Int) (d : DataW Unit) : offB G (.int .i64 x, d) = !decide (x ∈ G) := by
  unfold offB
  congr 1
  rw [Bool.eq_iff_iff]
  simp only [List.any_eq_true, same_int, decide_eq_true_eq]
  exact ⟨fun ⟨g, hg, e⟩ => e ▸ hg, fun h => ⟨x, h, rfl⟩⟩

theorem off_put {D : DataW Unit} (hD : IsMap D) (G : List Int) (x : Int) (d : DataW Unit) : off G (D.put (.int .i64 x) d) = (if x ∈ G then 0 else 1) + off (x :: G) D := by
  obtain ⟨es, rfl⟩ := hD
  show ((DataW.insert (.int .i64 x, d) (es.filter fun p => !p.1.sameKey (.int .i64 x))).filter (offB G)).length = _ + (es.filter (offB (x :: G))).length
  rw [((insert_perm (.int .i64 x, d) _).filter _).length_eq, List.filter_cons, offB_int, List.filter_filter]
  have e : (es.filter fun a => offB G a && !a.1.sameKey (.int .i64 x)) = es.filter (offB (x :: G)) := by
    apply List.filter_congr
    intro p _
    unfold offB
    simp only [List.any_cons, Bool.not_or, Bool.and_comm]
  rw [e]
  by_cases h : x ∈ G
  · simp [h]
  · simp [h]; omega

theorem bld_isMap (zs vs : List Int) (n : Nat) : ∀ k, IsMap (bld zs vs n k)
  | 0 => isMap_empty
  | k + 1 => (bld_isMap zs vs n k).put _ _

theorem off_bld (zs vs : List Int) (m : Nat) : ∀ (n : Nat) (G : List Int), off G (bld zs vs m n) = cnt G zs n n
  | 0, G => rfl
  | n + 1, G => by
    show off G ((bld zs vs m n).put _ _) = cnt G zs (n + 1) n + one G zs (n + 1) n
    rw [off_put (bld_isMap zs vs m n), off_bld zs vs m n, cnt_succ n (Nat.le_refl _), one_top]
    omega

theorem size_two {D : DataW Unit} (hD : IsMap D) (a b : Int) : size ((D.del (.int .i64 a)).del (.int .i64 b)) = off [a, b] D := by
  obtain ⟨es, rfl⟩ := hD
  show ((es.filter fun p => !p.1.sameKey (.int .i64 a)).filter fun p => !p.1.sameKey (.int .i64 b)).length = (es.filter (offB [a, b])).length
  rw [List.filter_filter]
  congr 1
  apply List.filter_congr
  intro p _
  unfold offB
  simp only [List.any_cons, List.any_nil, Bool.or_false, Bool.not_or, Bool.and_comm]

/-! ### What stands at a key -/
theorem has_bld (zs vs : List Int) (m : Nat) (x : Int) : ∀ n, has (bld zs vs m n) (.int .i64 x) = (lastIdx zs x n).isSome
  | 0 => rfl
  | n + 1 => by
    unfold bld lastIdx
    by_cases h : zs.getD n 0 = x
    · rw [if_pos h, h, has_put_same (bld_isMap zs vs m n) isKey_int]; rfl
    · rw [if_neg h, has_put_other (fun e => h (by cases e; rfl)), has_bld zs vs m x n]

theorem at_bld (zs vs : List Int) (m : Nat) (x : Int) : ∀ n, (bld zs vs m n).atKey (.int .i64 x) (.lit (.int .i64 0)) = .lit (.int .i64 (valOf vs m (lastIdx zs x n)))
  | 0 => rfl
  | n + 1 => by
    unfold bld lastIdx
    by_cases h : zs.getD n 0 = x
    · rw [if_pos h, h, atKey_put_same (bld_isMap zs vs m n) isKey_int]; rfl
    · rw [if_neg h, atKey_put_other (fun e => h (by cases e; rfl)), at_bld zs vs m x n]

/-- WHAT zzAgrees ASKS OF A MAP D: its size, its two struck keys, what stands at each key. -/
structure Agreed (D : DataW Unit) (zs vs : List Int) (n m : Nat) (a b : Int) : Prop where
  size : size D = cnt [a, b] zs n n
  fst : has D (.int .i64 a) = false
  snd : has D (.int .i64 b) = false
  hasAt : ∀ x, x ≠ a → x ≠ b → has D (.int .i64 x) = (lastIdx zs x n).isSome
  valAt : ∀ x, x ≠ a → x ≠ b → D.atKey (.int .i64 x) (.lit (.int .i64 0)) = .lit (.int .i64 (valOf vs m (lastIdx zs x n)))

theorem int_ne {a b : Int} (h : a ≠ b) : Lit.int .i64 a ≠ .int .i64 b := fun e => h (by cases e; rfl)

/-- THE LAW OF TWO: the map that the pairs build, less a and b. -/
theorem agreed_two (zs vs : List Int) (n m : Nat) (a b : Int) : Agreed (((bld zs vs m n).del (.int .i64 a)).del (.int .i64 b)) zs vs n m a b := by
  refine ⟨by rw [size_two (bld_isMap zs vs m n), off_bld], ?_, has_del_same, fun x ha hb => ?_, fun x ha hb => ?_⟩
  · by_cases h : a = b
    · subst h; exact has_del_same
    · rw [has_del_other (int_ne h)]; exact has_del_same
  · rw [has_del_other (int_ne hb), has_del_other (int_ne ha), has_bld]
  · rw [atKey_del_other (int_ne hb), atKey_del_other (int_ne ha), at_bld]

theorem del_del (D : DataW Unit) (k : Lit) : (D.del k).del k = D.del k := del_of_not_has has_del_same

theorem del_comm (D : DataW Unit) (k k' : Lit) : (D.del k).del k' = (D.del k').del k := by
  cases D <;> try rfl
  rename_i es
  show DataW.map ((es.filter fun p => !p.1.sameKey k).filter fun p => !p.1.sameKey k') = .map ((es.filter fun p => !p.1.sameKey k').filter fun p => !p.1.sameKey k)
  rw [List.filter_filter, List.filter_filter]
  congr 1
  apply List.filter_congr
  intro p _
  exact Bool.and_comm _ _

/-- THE LAW OF ONE. -/
theorem agreed_one (zs vs : List Int) (n m : Nat) (a : Int) : Agreed ((bld zs vs m n).del (.int .i64 a)) zs vs n m a a := by
  have h := agreed_two zs vs n m a a
  rwa [del_del] at h

/-- .. and struck in another order, and once more. -/
theorem agreed_three (zs vs : List Int) (n m : Nat) (a b : Int) : Agreed ((((bld zs vs m n).del (.int .i64 b)).del (.int .i64 a)).del (.int .i64 b)) zs vs n m a b := by
  have h := agreed_two zs vs n m a b
  rwa [← del_del, del_comm (bld zs vs m n)] at h
end Go.Proofs.Qxb6630908a
