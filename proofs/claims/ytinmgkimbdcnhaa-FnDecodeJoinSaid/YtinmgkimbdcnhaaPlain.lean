/-
  PLAIN MATHEMATICS, NO PROGRAM: UTF-16 on integers and lists of integers.
-/
namespace Go.Proofs.Ytinmgkimbdcnhaa.U

/-- the first half of a pair -/
def hiB (r : Int) : Bool := decide (55296 ≤ r ∧ r ≤ 56319)

/-- the second half of a pair -/
def loB (r : Int) : Bool := decide (56320 ≤ r ∧ r ≤ 57343)

/-- a surrogate -/
def surB (r : Int) : Bool := decide (55296 ≤ r ∧ r ≤ 57343)

/-- a number that can be encoded -/
def encB (r : Int) : Bool := decide (0 ≤ r ∧ r ≤ 1114111 ∧ ¬ (55296 ≤ r ∧ r ≤ 57343))

/-- the number of code units -/
def rlen (r : Int) : Int := if 65536 ≤ r ∧ r ≤ 1114111 then 2 else if 0 ≤ r ∧ r ≤ 1114111 ∧ ¬ (55296 ≤ r ∧ r ≤ 57343) then 1 else -1

/-- the pair of a number -/
def er1 (r : Int) : Int := if 65536 ≤ r ∧ r ≤ 1114111 then 55296 + (r - 65536) / 1024 else 65533

def er2 (r : Int) : Int := if 65536 ≤ r ∧ r ≤ 1114111 then 56320 + (r - 65536) % 1024 else 65533

/-- the number of a pair -/
def dr (a b : Int) : Int := if (55296 ≤ a ∧ a ≤ 56319) ∧ (56320 ≤ b ∧ b ≤ 57343) then 65536 + (a - 55296) * 1024 + (b - 56320) else 65533

/-- U+FFFD in place of a number that cannot be encoded -/
def rep (r : Int) : Int := if encB r = true then r else 65533

/-- the seven ranges of a number -/
theorem cls (r : Int) : r < 0 ∨ (0 ≤ r ∧ r < 55296) ∨ (55296 ≤ r ∧ r < 56320) ∨ (56320 ≤ r ∧ r < 57344) ∨ (57344 ≤ r ∧ r < 65536) ∨ (65536 ≤ r ∧ r ≤ 1114111) ∨ 1114111 < r := by omega

theorem sur_cases (r : Int) : (hiB r = true ∧ loB r = false ∧ surB r = true) ∨ (hiB r = false ∧ loB r = true ∧ surB r = true) ∨ (hiB r = false ∧ loB r = false ∧ surB r = false) := by
  simp only [hiB, loB, surB, decide_eq_true_eq, decide_eq_false_iff_not]; omega

theorem enc_cases (r : Int) : (r < 0 ∧ encB r = false) ∨ (1114111 < r ∧ encB r = false) ∨ (0 ≤ r ∧ r ≤ 1114111 ∧ surB r = true ∧ encB r = false) ∨ (0 ≤ r ∧ r ≤ 1114111 ∧ surB r = false ∧ encB r = true) := by
  simp only [surB, encB, decide_eq_true_eq, decide_eq_false_iff_not]; omega

theorem rlen_two {r : Int} (h : 65536 ≤ r ∧ r ≤ 1114111) : rlen r = 2 := by rw [rlen, if_pos h]

theorem rlen_one {r : Int} (h : 0 ≤ r ∧ r ≤ 65535 ∧ ¬ (55296 ≤ r ∧ r ≤ 57343)) : rlen r = 1 := by rw [rlen, if_neg (by omega), if_pos (by omega)]

theorem rlen_none {r : Int} (h : ¬ (0 ≤ r ∧ r ≤ 1114111 ∧ ¬ (55296 ≤ r ∧ r ≤ 57343))) : rlen r = -1 := by rw [rlen, if_neg (by omega), if_neg h]

theorem len_cases (r : Int) : (encB r = true ∧ r < 65536 ∧ rlen r = 1) ∨ (encB r = true ∧ 65536 ≤ r ∧ rlen r = 2) ∨ (encB r = false ∧ rlen r = -1) := by
  by_cases h : 0 ≤ r ∧ r ≤ 1114111 ∧ ¬ (55296 ≤ r ∧ r ≤ 57343)
  · by_cases h2 : r < 65536
    · exact .inl ⟨decide_eq_true h, h2, rlen_one (by omega)⟩
    · exact .inr (.inl ⟨decide_eq_true h, by omega, rlen_two (by omega)⟩)
  · exact .inr (.inr ⟨decide_eq_false h, rlen_none h⟩)

theorem rlen_cases (r : Int) : rlen r = 1 ∨ rlen r = 2 ∨ rlen r = -1 := by
  rcases len_cases r with ⟨_, _, h⟩ | ⟨_, _, h⟩ | ⟨_, h⟩
  · exact .inl h
  · exact .inr (.inl h)
  · exact .inr (.inr h)

theorem rlen_two_iff (r : Int) : rlen r = 2 ↔ (65536 ≤ r ∧ r ≤ 1114111) := by
  constructor
  · intro h
    unfold rlen at h
    split at h
    · assumption
    · split at h <;> omega
  · exact rlen_two

theorem pair_cases (r : Int) : (65536 ≤ r ∧ r ≤ 1114111 ∧ (rlen r != 2) = false ∧ er1 r = 55296 + (r - 65536) / 1024 ∧ er2 r = 56320 + (r - 65536) % 1024) ∨ ((rlen r != 2) = true ∧ er1 r = 65533 ∧ er2 r = 65533) := by
  by_cases h : 65536 ≤ r ∧ r ≤ 1114111
  · exact .inl ⟨h.1, h.2, by rw [rlen_two h]; rfl, by rw [er1, if_pos h], by rw [er2, if_pos h]⟩
  · refine .inr ⟨?_, by rw [er1, if_neg h], by rw [er2, if_neg h]⟩
    have := mt (rlen_two_iff r).1 h
    simpa using this

theorem dec_cases (a b : Int) : (hiB a = false ∧ dr a b = 65533) ∨ (hiB a = true ∧ loB b = false ∧ dr a b = 65533) ∨
    (hiB a = true ∧ loB b = true ∧ 55296 ≤ a ∧ a ≤ 56319 ∧ 56320 ≤ b ∧ b ≤ 57343 ∧ dr a b = 65536 + (a - 55296) * 1024 + (b - 56320)) := by
  by_cases h : 55296 ≤ a ∧ a ≤ 56319
  · by_cases h2 : 56320 ≤ b ∧ b ≤ 57343
    · exact .inr (.inr ⟨decide_eq_true h, decide_eq_true h2, h.1, h.2, h2.1, h2.2, by rw [dr, if_pos ⟨h, h2⟩]⟩)
    · exact .inr (.inl ⟨decide_eq_true h, decide_eq_false h2, by rw [dr, if_neg (fun x => h2 x.2)]⟩)
  · exact .inl ⟨decide_eq_false h, by rw [dr, if_neg (fun x => h x.1)]⟩

theorem dr_range (a b : Int) : dr a b = 65533 ∨ (65536 ≤ dr a b ∧ dr a b ≤ 1114111) := by
  unfold dr
  split
  · right; omega
  · left; rfl

theorem dr_turned (a b : Int) (h : dr a b ≠ 65533) : dr b a = 65533 := by
  unfold dr at *
  split at h
  · rw [if_neg (by omega)]
  · exact absurd rfl h

theorem partner1 (a : Int) : (dr a 56320 != 65533) = hiB a := by
  rcases dec_cases a 56320 with ⟨h1, h2⟩ | ⟨h1, h2, _⟩ | ⟨h1, _, h2, h3, _, _, h4⟩
  · rw [h1, h2]; rfl
  · cases h2
  · rw [h1, h4]; simp; omega

theorem partner2 (a : Int) : (dr 55296 a != 65533) = loB a := by
  rcases dec_cases 55296 a with ⟨h1, h2⟩ | ⟨_, h1, h2⟩ | ⟨_, h1, _, _, h2, h3, h4⟩
  · cases h1
  · rw [h1, h2]; rfl
  · rw [h1, h4]; simp; omega

theorem pair_cases' (r : Int) : (rlen r = 2 ∧ (er1 r == 65533) = false ∧ hiB (er1 r) = true ∧ loB (er2 r) = true ∧ 65536 ≤ r ∧ r ≤ 1114111) ∨ ((rlen r != 2) = true ∧ er1 r = 65533 ∧ er2 r = 65533) := by
  rcases pair_cases r with ⟨h1, h2, h3, h4, h5⟩ | h
  · left
    refine ⟨rlen_two ⟨h1, h2⟩, ?_, ?_, ?_, h1, h2⟩
    · rw [h4]; simp; omega
    · rw [h4]; apply decide_eq_true; omega
    · rw [h5]; apply decide_eq_true; omega
  · right; exact h

theorem next_cases (r : Int) (h1 : 65536 ≤ r) (h2 : r < 1114111) : ((er1 (r + 1) == er1 r) = true ∧ (er2 (r + 1) == er2 r + 1) = true) ∨ ((er1 (r + 1) == er1 r) = false ∧ (er1 (r + 1) == er1 r + 1) = true ∧ (er2 r == 57343) = true ∧ (er2 (r + 1) == 56320) = true) := by
  rw [er1, er1, er2, er2, if_pos (by omega), if_pos (by omega), if_pos (by omega), if_pos (by omega)]
  simp only [beq_iff_eq, beq_eq_false_iff_ne, ne_eq]
  omega

theorem er_range (r : Int) (h : 65536 ≤ r ∧ r ≤ 1114111) : 55296 ≤ er1 r ∧ er1 r ≤ 56319 ∧ 56320 ≤ er2 r ∧ er2 r ≤ 57343 := by
  rw [er1, er2, if_pos h, if_pos h]; omega

theorem order_cases (r s : Int) (h1 : 65536 ≤ r) (h2 : r ≤ 1114111) (h3 : 65536 ≤ s) (h4 : s ≤ 1114111) :
    (r < s ∧ er1 r < er1 s) ∨ (r < s ∧ er1 r = er1 s ∧ er2 r < er2 s) ∨ (s ≤ r ∧ er1 s < er1 r) ∨ (s ≤ r ∧ er1 r = er1 s ∧ er2 s ≤ er2 r) := by
  rw [er1, er1, er2, er2, if_pos (by omega), if_pos (by omega), if_pos (by omega), if_pos (by omega)]
  omega

theorem or_split (a b : Nat) (h : b < 1024) : (a * 1024) ||| b = a * 1024 + b := by
  have := Nat.two_pow_add_eq_or_of_lt (i := 10) h a
  rw [Nat.mul_comm a 1024]
  exact this.symm

theorem and_low (a : Nat) : a &&& 1023 = a % 1024 := Nat.and_two_pow_sub_one_eq_mod a 10

end Go.Proofs.Ytinmgkimbdcnhaa.U
