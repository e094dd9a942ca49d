/-
  THE PLAIN SIDE: the text of an op, when two ops mean the same, and that equal texts are equal meanings. No Go in sight.
-/
import Derived.Lib.ItoaNum
namespace Go.Proofs.Qxb6627473aDoor
open Go.Lib (decDigits itoa)

/-! ### The numeral -/
theorem dec_small {u : Nat} (h : u < 10) : decDigits u = [UInt8.ofNat (48 + u)] := by rw [decDigits, dif_pos h]
theorem dec_big {u : Nat} (h : ¬ u < 10) : decDigits u = decDigits (u / 10) ++ [UInt8.ofNat (48 + u % 10)] := by rw [decDigits, dif_neg h]

theorem dec_ne (u : Nat) : decDigits u ≠ [] := by
  by_cases h : u < 10
  · rw [dec_small h]; simp
  · rw [dec_big h]; simp

theorem digit_inj {a b : Nat} (ha : a < 10) (hb : b < 10) (h : UInt8.ofNat (48 + a) = UInt8.ofNat (48 + b)) : a = b := by
  have := congrArg UInt8.toNat h
  simp only [UInt8.toNat_ofNat'] at this
  omega

theorem dec_inj : ∀ (u v : Nat), decDigits u = decDigits v → u = v := by
  intro u
  induction u using Nat.strongRecOn with
  | _ u ih =>
    intro v h
    by_cases hu : u < 10
    · by_cases hv : v < 10
      · rw [dec_small hu, dec_small hv] at h
        exact digit_inj hu hv (by simpa using h)
      · rw [dec_small hu, dec_big hv] at h
        have h3 := congrArg List.length h
        have h4 := List.length_pos_iff.2 (dec_ne (v / 10))
        simp only [List.length_append, List.length_cons, List.length_nil] at h3
        omega
    · by_cases hv : v < 10
      · rw [dec_big hu, dec_small hv] at h
        have h3 := congrArg List.length h
        have h4 := List.length_pos_iff.2 (dec_ne (u / 10))
        simp only [List.length_append, List.length_cons, List.length_nil] at h3
        omega
      · rw [dec_big hu, dec_big hv] at h
        obtain ⟨h1, h2⟩ := List.append_inj' h rfl
        have e1 := ih (u / 10) (by omega) (v / 10) h1
        have e2 := digit_inj (Nat.mod_lt _ (by decide)) (Nat.mod_lt _ (by decide)) (by simpa using h2)
        omega

theorem dec_range : ∀ (u : Nat), ∀ c ∈ decDigits u, 48 ≤ c.toNat ∧ c.toNat ≤ 57 := by
  intro u
  induction u using Nat.strongRecOn with
  | _ u ih =>
    intro c hc
    by_cases hu : u < 10
    · rw [dec_small hu] at hc
      simp only [List.mem_singleton] at hc
      subst hc
      rw [UInt8.toNat_ofNat']; omega
    · rw [dec_big hu] at hc
      rcases List.mem_append.1 hc with hc | hc
      · exact ih (u / 10) (by omega) c hc
      · simp only [List.mem_singleton] at hc
        subst hc
        rw [UInt8.toNat_ofNat']; omega

theorem not_dash (u : Nat) : (45 : UInt8) ∉ decDigits u := fun h => by have := dec_range u 45 h; revert this; decide

theorem itoa_inj {a b : Int} (h : itoa a = itoa b) : a = b := by
  unfold itoa at h
  by_cases ha : a < 0
  · by_cases hb : b < 0
    · rw [if_pos ha, if_pos hb] at h
      have := dec_inj _ _ (List.cons.inj h).2
      omega
    · rw [if_pos ha, if_neg hb] at h
      exact absurd (by rw [← h]; simp) (not_dash b.toNat)
  · by_cases hb : b < 0
    · rw [if_neg ha, if_pos hb] at h
      exact absurd (by rw [h]; simp) (not_dash a.toNat)
    · rw [if_neg ha, if_neg hb] at h
      have := dec_inj _ _ h
      omega

theorem itoa_range (n : Int) : ∀ c ∈ itoa n, c = 45 ∨ 48 ≤ c.toNat ∧ c.toNat ≤ 57 := by
  intro c hc
  unfold itoa at hc
  split at hc
  · rcases List.mem_cons.1 hc with h | h
    · exact .inl h
    · exact .inr (dec_range _ c h)
  · exact .inr (dec_range _ c hc)

theorem not_open (n : Int) : (40 : UInt8) ∉ itoa n := fun h => by
  rcases itoa_range n 40 h with h | h
  · revert h; decide
  · revert h; decide

/-- An int64's numeral has at most twenty bytes. -/
theorem dec_len : ∀ (k u : Nat), u < 10 ^ (k + 1) → (decDigits u).length ≤ k + 1
  | 0, u, h => by rw [dec_small (by simpa using h)]; simp
  | k + 1, u, h => by
    by_cases hu : u < 10
    · rw [dec_small hu]; simp
    · rw [dec_big hu]
      have := dec_len k (u / 10) (by rw [Nat.pow_succ] at h; omega)
      simp; omega

theorem itoa_len {n : Int} (h0 : -9223372036854775808 ≤ n) (h1 : n ≤ 9223372036854775807) : (itoa n).length ≤ 21 := by
  have hp : (10 : Nat) ^ (19 + 1) = 100000000000000000000 := by decide
  unfold itoa
  split
  · have := dec_len 19 n.natAbs (by rw [hp]; omega)
    simp; omega
  · have := dec_len 19 n.toNat (by rw [hp]; omega)
    omega

/-! ### The first place of a mark -/
theorem split_at {x : UInt8} : ∀ {l1 l2 r1 r2 : List UInt8}, x ∉ l1 → x ∉ l2 → l1 ++ x :: r1 = l2 ++ x :: r2 → l1 = l2 ∧ r1 = r2
  | [], [], r1, r2, _, _, h => ⟨rfl, (List.cons.inj h).2⟩
  | [], c :: l2, r1, r2, _, h2, h => absurd (by rw [(List.cons.inj h).1]; simp) h2
  | c :: l1, [], r1, r2, h1, _, h => absurd (by rw [← (List.cons.inj h).1]; simp) h1
  | c :: l1, d :: l2, r1, r2, h1, h2, h => by
    obtain ⟨e, h⟩ := List.cons.inj h
    obtain ⟨e1, e2⟩ := split_at (fun m => h1 (List.mem_cons_of_mem _ m)) (fun m => h2 (List.mem_cons_of_mem _ m)) h
    exact ⟨by rw [e, e1], e2⟩

/-! ### An op's text -/
/-- An op: its kind, its transaction, its key, its other key, its value, whether it names none. -/
structure Opn where
  k : Int
  t : Int
  key : List UInt8
  to : List UInt8
  v : Int
  nv : Bool

def letter (k : Int) : UInt8 := if k = 1 then 114 else if k = 2 then 119 else if k = 3 then 99 else if k = 4 then 97 else if k = 5 then 100 else if k = 6 then 115 else 45
/-- What stands behind the letter and the transaction's numeral. -/
def tail (o : Opn) : List UInt8 :=
  if o.k = 1 ∨ o.k = 5 then 40 :: (o.key ++ [41])
  else if o.k = 6 then 40 :: (o.key ++ 44 :: (o.to ++ [41]))
  else if o.k = 2 then (if o.nv = true then 40 :: (o.key ++ [41]) else 40 :: (o.key ++ 44 :: (itoa o.v ++ [41])))
  else []
def text (o : Opn) : List UInt8 := letter o.k :: (itoa o.t ++ tail o)

/-- Two ops mean the same. -/
def same (a b : Opn) : Prop := a.k = b.k ∧ a.t = b.t ∧
  ((a.k = 1 ∨ a.k = 5) → a.key = b.key) ∧ (a.k = 6 → a.key = b.key ∧ a.to = b.to) ∧ (a.k = 2 → a.key = b.key ∧ a.nv = b.nv ∧ (a.nv = false → a.v = b.v))

theorem letter_inj {a b : Int} (ha0 : 0 ≤ a) (ha : a ≤ 6) (hb0 : 0 ≤ b) (hb : b ≤ 6) (h : letter a = letter b) : a = b := by
  have ca : a = 0 ∨ a = 1 ∨ a = 2 ∨ a = 3 ∨ a = 4 ∨ a = 5 ∨ a = 6 := by omega
  have cb : b = 0 ∨ b = 1 ∨ b = 2 ∨ b = 3 ∨ b = 4 ∨ b = 5 ∨ b = 6 := by omega
  rcases ca with rfl | rfl | rfl | rfl | rfl | rfl | rfl <;> rcases cb with rfl | rfl | rfl | rfl | rfl | rfl | rfl <;> first | rfl | (exfalso; revert h; decide)

theorem tail_shape (o : Opn) : tail o = [] ∨ ∃ r, tail o = 40 :: r := by
  unfold tail
  repeat' split
  all_goals first | exact .inl rfl | exact .inr ⟨_, rfl⟩

theorem head_cut {m n : Int} {l r : List UInt8} (hl : l = [] ∨ ∃ x, l = 40 :: x) (hr : r = [] ∨ ∃ x, r = 40 :: x) (h : itoa m ++ l = itoa n ++ r) : m = n ∧ l = r := by
  rcases hl with rfl | ⟨x, rfl⟩
  · rcases hr with rfl | ⟨y, rfl⟩
    · exact ⟨itoa_inj (by simpa using h), rfl⟩
    · exact absurd (by rw [List.append_nil] at h; rw [h]; simp) (not_open m)
  · rcases hr with rfl | ⟨y, rfl⟩
    · exact absurd (by rw [List.append_nil] at h; rw [← h]; simp) (not_open n)
    · obtain ⟨e1, e2⟩ := split_at (not_open m) (not_open n) h
      exact ⟨itoa_inj e1, by rw [e2]⟩

theorem key_cut {k1 k2 : List UInt8} (h : k1 ++ [41] = k2 ++ [41]) : k1 = k2 := (List.append_inj' h rfl).1

theorem no_comma {k1 k2 r : List UInt8} (h1 : (44 : UInt8) ∉ k1) (h : k1 ++ [41] = k2 ++ 44 :: r) : False := by
  have : (44 : UInt8) ∈ k1 ++ [41] := by rw [h]; simp
  rcases List.mem_append.1 this with h | h
  · exact h1 h
  · revert h; decide

theorem tail_key {o : Opn} (h : o.k = 1 ∨ o.k = 5) : tail o = 40 :: (o.key ++ [41]) := by unfold tail; rw [if_pos h]
theorem tail_scan {o : Opn} (h : o.k = 6) : tail o = 40 :: (o.key ++ 44 :: (o.to ++ [41])) := by unfold tail; rw [if_neg (by omega), if_pos h]
theorem tail_none {o : Opn} (h : o.k = 2) (hn : o.nv = true) : tail o = 40 :: (o.key ++ [41]) := by unfold tail; rw [if_neg (by omega), if_neg (by omega), if_pos h, if_pos hn]
theorem tail_val {o : Opn} (h : o.k = 2) (hn : o.nv = false) : tail o = 40 :: (o.key ++ 44 :: (itoa o.v ++ [41])) := by unfold tail; rw [if_neg (by omega), if_neg (by omega), if_pos h, if_neg (by rw [hn]; decide)]
theorem tail_bare {o : Opn} (h : o.k ≠ 1 ∧ o.k ≠ 5 ∧ o.k ≠ 6 ∧ o.k ≠ 2) : tail o = [] := by unfold tail; rw [if_neg (by omega), if_neg (by omega), if_neg (by omega)]

/-- THE LAW: equal texts are equal meanings. -/
theorem text_iff (a b : Opn) (ha0 : 0 ≤ a.k) (ha : a.k ≤ 6) (hb0 : 0 ≤ b.k) (hb : b.k ≤ 6) (hka : a.k = 2 ∨ a.k = 6 → (44 : UInt8) ∉ a.key) (hkb : b.k = 2 ∨ b.k = 6 → (44 : UInt8) ∉ b.key) :
    text a = text b ↔ same a b := by
  constructor
  · intro h
    obtain ⟨e0, h⟩ := List.cons.inj h
    have ek := letter_inj ha0 ha hb0 hb e0
    obtain ⟨et, h⟩ := head_cut (tail_shape a) (tail_shape b) h
    refine ⟨ek, et, fun hk => ?_, fun hk => ?_, fun hk => ?_⟩
    · rw [tail_key hk, tail_key (by rw [← ek]; exact hk)] at h
      exact key_cut (List.cons.inj h).2
    · rw [tail_scan hk, tail_scan (by rw [← ek]; exact hk)] at h
      obtain ⟨e1, e2⟩ := split_at (hka (.inr hk)) (hkb (.inr (by omega))) (List.cons.inj h).2
      exact ⟨e1, key_cut e2⟩
    · have hk' : b.k = 2 := by omega
      cases hva : a.nv <;> cases hvb : b.nv
      · rw [tail_val hk hva, tail_val hk' hvb] at h
        obtain ⟨e1, e2⟩ := split_at (hka (.inl hk)) (hkb (.inl hk')) (List.cons.inj h).2
        exact ⟨e1, rfl, fun _ => itoa_inj (key_cut e2)⟩
      · rw [tail_val hk hva, tail_none hk' hvb] at h
        exact (no_comma (hkb (.inl hk')) (List.cons.inj h).2.symm).elim
      · rw [tail_none hk hva, tail_val hk' hvb] at h
        exact (no_comma (hka (.inl hk)) (List.cons.inj h).2).elim
      · rw [tail_none hk hva, tail_none hk' hvb] at h
        exact ⟨key_cut (List.cons.inj h).2, rfl, fun hf => by cases hf⟩
  · rintro ⟨ek, et, h1, h2, h3⟩
    have : tail a = tail b := by
      by_cases c1 : a.k = 1 ∨ a.k = 5
      · rw [tail_key c1, tail_key (by rw [← ek]; exact c1), h1 c1]
      · by_cases c2 : a.k = 6
        · obtain ⟨e1, e2⟩ := h2 c2
          rw [tail_scan c2, tail_scan (by rw [← ek]; exact c2), e1, e2]
        · by_cases c3 : a.k = 2
          · obtain ⟨e1, e2, e3⟩ := h3 c3
            have hk' : b.k = 2 := by omega
            cases hva : a.nv
            · rw [tail_val c3 hva, tail_val hk' (by rw [← e2]; exact hva), e1, e3 hva]
            · rw [tail_none c3 hva, tail_none hk' (by rw [← e2]; exact hva), e1]
          · rw [tail_bare (by omega), tail_bare (by omega)]
    unfold text
    rw [ek, et, this]
end Go.Proofs.Qxb6627473aDoor
