/-
  PLAIN: UTF-16 on lists: encoding, decoding, surrogates alone.
-/
import Derived.Test.YtinmgkimbdcnhaaPlain
namespace Go.Proofs.Ytinmgkimbdcnhaa.U

/-- the code units of a number; those of U+FFFD if it cannot be encoded -/
def units (r : Int) : List Int := if encB r = true then (if r < 65536 then [r] else [er1 r, er2 r]) else [65533]

def enc (us : List Int) : List Int := us.flatMap units

/-- a code unit alone -/
def one (u : Int) : Int := if surB u = true then 65533 else u

def dec : List Int → List Int
  | [] => []
  | [u] => [one u]
  | u :: v :: t => if hiB u = true ∧ loB v = true then dr u v :: dec t else one u :: dec (v :: t)

/-- every surrogate is half of a pair -/
def wfm : List Int → Bool
  | [] => true
  | [u] => !surB u
  | u :: v :: t => if hiB u = true ∧ loB v = true then wfm t else !surB u && wfm (v :: t)

/-- how many pairs -/
def cnt : List Int → Nat
  | [] => 0
  | [_] => 0
  | u :: v :: t => (if hiB u = true ∧ loB v = true then 1 else 0) + cnt (v :: t)

/-- code units -/
def isU (us : List Int) : Prop := ∀ u ∈ us, 0 ≤ u ∧ u ≤ 65535

theorem rep_same (us : List Int) (h : us.all encB = true) : us.map rep = us := by
  rw [List.all_eq_true] at h
  have : us.map rep = us.map id := List.map_congr_left fun u hu => by simp [rep, h u hu]
  simpa using this

theorem rep_fd (u : Int) (h : encB u = false) : rep u ≠ u := by
  simp only [rep, h, if_false, Bool.false_eq_true]
  intro e
  subst e
  simp [encB] at h

theorem rep_ne (us : List Int) (h : us.all encB = false) : us.map rep ≠ us := by
  intro e
  rw [List.all_eq_false] at h
  obtain ⟨u, hu, hq⟩ := h
  obtain ⟨i, hi, rfl⟩ := List.getElem_of_mem hu
  have h1 : (us.map rep)[i]? = us[i]? := by rw [e]
  rw [List.getElem?_map, List.getElem?_eq_getElem hi] at h1
  injection h1 with h1
  exact rep_fd _ (by simpa using hq) h1

theorem enc_rep (u : Int) : encB (rep u) = true := by
  unfold rep
  split
  · assumption
  · rfl

theorem rep_rep (u : Int) : rep (rep u) = rep u := by rw [rep, if_pos (enc_rep u)]

theorem units_rep (u : Int) : units (rep u) = units u := by
  by_cases h : encB u = true
  · rw [rep, if_pos h]
  · rw [rep, if_neg h, units, units, if_neg h, if_pos (by rfl), if_pos (by omega)]

theorem enc_map_rep (us : List Int) : enc (us.map rep) = enc us := by
  unfold enc
  rw [List.flatMap_map, funext units_rep]

theorem enc_nil : enc [] = [] := rfl

theorem enc_cons (u : Int) (us : List Int) : enc (u :: us) = units u ++ enc us := rfl

theorem enc_append (us vs : List Int) : enc (us ++ vs) = enc us ++ enc vs := by simp [enc]

theorem enc_single (u : Int) : enc [u] = units u := by simp [enc]

theorem units_cases (u : Int) : (encB u = true ∧ 0 ≤ u ∧ u < 65536 ∧ surB u = false ∧ units u = [u]) ∨ (encB u = true ∧ 65536 ≤ u ∧ u ≤ 1114111 ∧ hiB (er1 u) = true ∧ loB (er2 u) = true ∧ units u = [er1 u, er2 u]) ∨ (encB u = false ∧ units u = [65533]) := by
  by_cases h : encB u = true
  · have h' := h
    simp only [encB, decide_eq_true_eq] at h'
    by_cases h2 : u < 65536
    · left
      refine ⟨h, h'.1, h2, ?_, by simp [units, h, h2]⟩
      simp only [surB, decide_eq_false_iff_not]; omega
    · right; left
      refine ⟨h, by omega, h'.2.1, ?_, ?_, by simp [units, h, h2]⟩
      · rw [er1, if_pos (by omega)]; simp only [hiB, decide_eq_true_eq]; omega
      · rw [er2, if_pos (by omega)]; simp only [loB, decide_eq_true_eq]; omega
  · right; right
    exact ⟨by simpa using h, by simp [units, h]⟩

theorem units_len (u : Int) : 1 ≤ (units u).length ∧ (units u).length ≤ 2 := by
  rcases units_cases u with ⟨_, _, _, _, h⟩ | ⟨_, _, _, _, _, h⟩ | ⟨_, h⟩ <;> rw [h] <;> simp

theorem units_isU (u : Int) : isU (units u) := by
  rcases units_cases u with ⟨_, h1, h2, _, h⟩ | ⟨_, h1, h2, h3, h4, h⟩ | ⟨_, h⟩
  · rw [h]; intro x hx; rw [List.mem_singleton.1 hx]; omega
  · rw [h]
    simp only [hiB, loB, decide_eq_true_eq] at h3 h4
    intro x hx
    simp only [List.mem_cons, List.not_mem_nil, or_false] at hx
    rcases hx with rfl | rfl <;> omega
  · rw [h]; intro x hx; rw [List.mem_singleton.1 hx]; omega

theorem enc_isU (us : List Int) : isU (enc us) := by
  intro x hx
  obtain ⟨u, _, hu⟩ := List.mem_flatMap.1 hx
  exact units_isU u x hu

theorem enc_len (us : List Int) : us.length ≤ (enc us).length ∧ (enc us).length ≤ 2 * us.length := by
  induction us with
  | nil => simp [enc]
  | cons u us ih =>
    have := units_len u
    rw [enc_cons, List.length_append, List.length_cons]
    omega

/-- how many numbers are 10000 (hexadecimal) or greater -/
def big (us : List Int) : Nat := (us.filter fun u => decide (65536 ≤ u)).length

theorem big_le (us : List Int) : big us ≤ us.length := List.length_filter_le _ _

theorem big_snoc (us : List Int) (u : Int) : big (us ++ [u]) = big us + if 65536 ≤ u then 1 else 0 := by
  unfold big
  rw [List.filter_append]
  by_cases h : 65536 ≤ u <;> simp [h]

theorem units_len_big (u : Int) : (units u).length ≤ 1 + if 65536 ≤ u then 1 else 0 := by
  rcases units_cases u with ⟨_, _, h2, _, h⟩ | ⟨_, h1, _, _, _, h⟩ | ⟨_, h⟩
  · rw [h]; simp
  · rw [h, if_pos h1]; simp
  · rw [h]; simp

theorem enc_len_big (us : List Int) : (enc us).length ≤ us.length + big us := by
  induction us with
  | nil => simp [enc]
  | cons u us ih =>
    have h1 := units_len_big u
    have h2 : big (u :: us) = (if 65536 ≤ u then 1 else 0) + big us := by
      unfold big
      by_cases h : 65536 ≤ u <;> simp [h] <;> omega
    rw [enc_cons, List.length_append, List.length_cons, h2]
    omega

theorem enc_len_take (us : List Int) (j : Nat) (u : Int) (h : us[j]? = some u) : (enc (us.take j)).length + (units u).length ≤ us.length + big us := by
  have h1 := enc_len_big us
  obtain ⟨hj, rfl⟩ := List.getElem?_eq_some_iff.1 h
  have e : enc us = enc (us.take j) ++ (units us[j] ++ enc (us.drop (j + 1))) := by
    rw [← enc_cons, ← enc_append, ← List.drop_eq_getElem_cons hj, List.take_append_drop]
  rw [e] at h1
  simp only [List.length_append] at h1
  omega

theorem enc_take_succ (us : List Int) (j : Nat) (u : Int) (h : us[j]? = some u) : enc (us.take (j + 1)) = enc (us.take j) ++ units u := by
  obtain ⟨hj, rfl⟩ := List.getElem?_eq_some_iff.1 h
  rw [List.take_succ_eq_append_getElem hj, enc_append, enc_single]

theorem one_nosur {u : Int} (h : surB u = false) : one u = u := by simp [one, h]

theorem one_sur {u : Int} (h : surB u = true) : one u = 65533 := by simp [one, h]

theorem sur_of_hi {u : Int} (h : hiB u = true) : surB u = true := by
  simp only [hiB, surB, decide_eq_true_eq] at *; omega

theorem sur_of_lo {u : Int} (h : loB u = true) : surB u = true := by
  simp only [loB, surB, decide_eq_true_eq] at *; omega

theorem hi_lo {u : Int} (h : hiB u = true) : loB u = false := by
  simp only [hiB, loB, decide_eq_true_eq, decide_eq_false_iff_not] at *; omega

theorem lo_hi {u : Int} (h : loB u = true) : hiB u = false := by
  simp only [hiB, loB, decide_eq_true_eq, decide_eq_false_iff_not] at *; omega

theorem hi_of_nosur {u : Int} (h : surB u = false) : hiB u = false := by
  simp only [hiB, surB, decide_eq_false_iff_not] at *; omega

theorem dec_pair (u v : Int) (t : List Int) (h1 : hiB u = true) (h2 : loB v = true) : dec (u :: v :: t) = dr u v :: dec t := by
  rw [dec, if_pos ⟨h1, h2⟩]

theorem dec_step (u : Int) (t : List Int) (h : hiB u = false ∨ t = [] ∨ ∃ v s, t = v :: s ∧ loB v = false) : dec (u :: t) = one u :: dec t := by
  match t, h with
  | [], _ => rfl
  | v :: s, h =>
    rw [dec, if_neg]
    rintro ⟨h1, h2⟩
    rcases h with h | h | ⟨v', s', h, h'⟩
    · rw [h1] at h; cases h
    · cases h
    · injection h with h3 h4
      subst h3
      rw [h2] at h'; cases h'

theorem dec_nosur (u : Int) (t : List Int) (h : surB u = false) : dec (u :: t) = u :: dec t := by
  rw [dec_step u t (.inl (hi_of_nosur h)), one_nosur h]

theorem wfm_pair (u v : Int) (t : List Int) (h1 : hiB u = true) (h2 : loB v = true) : wfm (u :: v :: t) = wfm t := by
  rw [wfm, if_pos ⟨h1, h2⟩]

theorem wfm_step (u : Int) (t : List Int) (h : hiB u = false ∨ t = [] ∨ ∃ v s, t = v :: s ∧ loB v = false) : wfm (u :: t) = (!surB u && wfm t) := by
  match t, h with
  | [], _ => simp [wfm]
  | v :: s, h =>
    rw [wfm, if_neg]
    rintro ⟨h1, h2⟩
    rcases h with h | h | ⟨v', s', h, h'⟩
    · rw [h1] at h; cases h
    · cases h
    · injection h with h3 h4
      subst h3
      rw [h2] at h'; cases h'

/-- the two ways a list of code units begins -/
theorem head_cases (u : Int) (t : List Int) : (∃ v s, t = v :: s ∧ hiB u = true ∧ loB v = true) ∨ (hiB u = false ∨ t = [] ∨ ∃ v s, t = v :: s ∧ loB v = false) := by
  cases h1 : hiB u
  · exact .inr (.inl rfl)
  · match t with
    | [] => exact .inr (.inr (.inl rfl))
    | v :: s =>
      cases h2 : loB v
      · exact .inr (.inr (.inr ⟨v, s, rfl, h2⟩))
      · exact .inl ⟨v, s, rfl, rfl, h2⟩

theorem dr_er (r : Int) (h : 65536 ≤ r ∧ r ≤ 1114111) : dr (er1 r) (er2 r) = r := by
  rw [er1, er2, if_pos h, if_pos h, dr, if_pos (by omega)]
  omega

theorem er_dr (a b : Int) (h1 : hiB a = true) (h2 : loB b = true) : er1 (dr a b) = a ∧ er2 (dr a b) = b ∧ 65536 ≤ dr a b ∧ dr a b ≤ 1114111 := by
  simp only [hiB, loB, decide_eq_true_eq] at h1 h2
  have e : dr a b = 65536 + (a - 55296) * 1024 + (b - 56320) := by rw [dr, if_pos ⟨h1, h2⟩]
  have hr : 65536 ≤ dr a b ∧ dr a b ≤ 1114111 := by omega
  rw [er1, er2, if_pos hr, if_pos hr]
  refine ⟨?_, ?_, hr⟩ <;> omega

/-- induction along the pairs -/
theorem pairs_ind {P : List Int → Prop} (h0 : P []) (hp : ∀ u v t, hiB u = true → loB v = true → P t → P (u :: v :: t)) (h1 : ∀ u t, (hiB u = false ∨ t = [] ∨ ∃ v s, t = v :: s ∧ loB v = false) → P t → P (u :: t)) : ∀ us, P us := by
  intro us
  induction hn : us.length using Nat.strongRecOn generalizing us with
  | _ n ih =>
    match us, hn with
    | [], _ => exact h0
    | u :: t, hn =>
      rcases head_cases u t with ⟨v, s, rfl, ha, hb⟩ | hc
      · exact hp u v s ha hb (ih s.length (by simp at hn; omega) s rfl)
      · exact h1 u t hc (ih t.length (by simp at hn; omega) t rfl)

theorem dec_units (u : Int) (t : List Int) : dec (units u ++ t) = rep u :: dec t := by
  rcases units_cases u with ⟨h0, h1, h2, h3, h⟩ | ⟨h0, h1, h2, h3, h4, h⟩ | ⟨h0, h⟩
  · rw [h, List.singleton_append, dec_nosur u t h3, rep, if_pos h0]
  · rw [h]
    show dec (er1 u :: er2 u :: t) = _
    rw [dec_pair _ _ _ h3 h4, dr_er u ⟨h1, h2⟩, rep, if_pos h0]
  · rw [h, List.singleton_append, dec_nosur _ t rfl, rep, if_neg (by simp [h0])]

theorem dec_enc (us : List Int) : dec (enc us) = us.map rep := by
  induction us with
  | nil => rfl
  | cons u us ih => rw [enc_cons, dec_units, ih]; rfl

theorem enc_one_nosur {u : Int} (h0 : 0 ≤ u ∧ u ≤ 65535) (h : surB u = false) : units u = [u] := by
  simp only [surB, decide_eq_false_iff_not] at h
  have : encB u = true := by simp only [encB, decide_eq_true_eq]; omega
  rw [units, if_pos this, if_pos (by omega)]

theorem units_dr {a b : Int} (h1 : hiB a = true) (h2 : loB b = true) : units (dr a b) = [a, b] := by
  obtain ⟨e1, e2, e3, e4⟩ := er_dr a b h1 h2
  have : encB (dr a b) = true := by simp only [encB, decide_eq_true_eq]; omega
  rw [units, if_pos this, if_neg (by omega), e1, e2]

theorem isU_tail {u : Int} {t : List Int} (h : isU (u :: t)) : isU t := fun x hx => h x (List.mem_cons_of_mem _ hx)

theorem isU_head {u : Int} {t : List Int} (h : isU (u :: t)) : 0 ≤ u ∧ u ≤ 65535 := h u (by simp)

theorem enc_dec (us : List Int) : isU us → wfm us = true → enc (dec us) = us := by
  refine pairs_ind (P := fun us => isU us → wfm us = true → enc (dec us) = us) ?_ ?_ ?_ us
  · intro _ _; rfl
  · intro u v t h1 h2 ih hU hw
    rw [wfm_pair u v t h1 h2] at hw
    rw [dec_pair u v t h1 h2, enc_cons, units_dr h1 h2, ih (isU_tail (isU_tail hU)) hw]
    rfl
  · intro u t hc ih hU hw
    rw [wfm_step u t hc] at hw
    simp only [Bool.and_eq_true, Bool.not_eq_true'] at hw
    rw [dec_step u t hc, one_nosur hw.1, enc_cons, enc_one_nosur (isU_head hU) hw.1, ih (isU_tail hU) hw.2]
    rfl

theorem encB_dr {a b : Int} (h1 : hiB a = true) (h2 : loB b = true) : encB (dr a b) = true := by
  obtain ⟨_, _, e3, e4⟩ := er_dr a b h1 h2
  simp only [encB, decide_eq_true_eq]; omega

theorem encB_one {u : Int} (h : 0 ≤ u ∧ u ≤ 65535) : encB (one u) = true := by
  cases h1 : surB u
  · rw [one_nosur h1]
    simp only [surB, decide_eq_false_iff_not] at h1
    simp only [encB, decide_eq_true_eq]; omega
  · rw [one_sur h1]; rfl

theorem dec_encB (us : List Int) : isU us → ∀ x ∈ dec us, encB x = true := by
  refine pairs_ind (P := fun us => isU us → ∀ x ∈ dec us, encB x = true) ?_ ?_ ?_ us
  · intro _ x hx; cases hx
  · intro u v t h1 h2 ih hU x hx
    rw [dec_pair u v t h1 h2] at hx
    rcases List.mem_cons.1 hx with rfl | hx
    · exact encB_dr h1 h2
    · exact ih (isU_tail (isU_tail hU)) x hx
  · intro u t hc ih hU x hx
    rw [dec_step u t hc] at hx
    rcases List.mem_cons.1 hx with rfl | hx
    · exact encB_one (isU_head hU)
    · exact ih (isU_tail hU) x hx

theorem dec_len (us : List Int) : (dec us).length ≤ us.length := by
  refine pairs_ind (P := fun us => (dec us).length ≤ us.length) ?_ ?_ ?_ us
  · simp [dec]
  · intro u v t h1 h2 ih
    rw [dec_pair u v t h1 h2]
    simp only [List.length_cons]; omega
  · intro u t hc ih
    rw [dec_step u t hc]
    simp only [List.length_cons]; omega

theorem dec_wf (us : List Int) (h : isU us) : ∀ x ∈ dec us, 0 ≤ x ∧ x ≤ 1114111 := by
  intro x hx
  have := dec_encB us h x hx
  simp only [encB, decide_eq_true_eq] at this
  omega

/-- a pair begins at an index -/
def pairAt (us : List Int) (j : Nat) : Bool := match us[j]?, us[j + 1]? with | some u, some v => hiB u && loB v | _, _ => false

theorem pairAt_true {us : List Int} {j : Nat} (h : pairAt us j = true) : ∃ u v, us[j]? = some u ∧ us[j + 1]? = some v ∧ hiB u = true ∧ loB v = true := by
  unfold pairAt at h
  split at h
  · rename_i u v h1 h2
    rw [Bool.and_eq_true] at h
    exact ⟨u, v, h1, h2, h.1, h.2⟩
  · cases h

theorem pairAt_false {us : List Int} {j : Nat} {u : Int} (hu : us[j]? = some u) (h : pairAt us j = false) : hiB u = false ∨ us.length ≤ j + 1 ∨ ∃ v, us[j + 1]? = some v ∧ loB v = false := by
  cases h1 : hiB u
  · exact .inl rfl
  · rcases h2 : us[j + 1]? with _ | v
    · exact .inr (.inl (List.getElem?_eq_none_iff.1 h2))
    · refine .inr (.inr ⟨v, rfl, ?_⟩)
      simpa [pairAt, hu, h2, h1] using h

theorem drop_at {us : List Int} {k : Nat} {u : Int} (h : us[k]? = some u) : us.drop k = u :: us.drop (k + 1) := by
  obtain ⟨hk, rfl⟩ := List.getElem?_eq_some_iff.1 h
  exact List.drop_eq_getElem_cons hk

theorem head_of {us : List Int} {j : Nat} {u : Int} (hc : hiB u = false ∨ us.length ≤ j + 1 ∨ ∃ v, us[j + 1]? = some v ∧ loB v = false) : hiB u = false ∨ us.drop (j + 1) = [] ∨ ∃ v s, us.drop (j + 1) = v :: s ∧ loB v = false := by
  rcases hc with hc | hc | ⟨v, hv, hc⟩
  · exact .inl hc
  · exact .inr (.inl (List.drop_eq_nil_of_le hc))
  · exact .inr (.inr ⟨v, _, drop_at hv, hc⟩)

theorem dec_drop {us : List Int} {j : Nat} {u : Int} (hu : us[j]? = some u) (h : pairAt us j = false) : dec (us.drop j) = one u :: dec (us.drop (j + 1)) := by
  rw [drop_at hu, dec_step _ _ (head_of (pairAt_false hu h))]

theorem dec_drop2 {us : List Int} {j : Nat} {u v : Int} (hu : us[j]? = some u) (hv : us[j + 1]? = some v) (h : pairAt us j = true) : dec (us.drop j) = dr u v :: dec (us.drop (j + 2)) := by
  obtain ⟨u', v', e1, e2, h1, h2⟩ := pairAt_true h
  rw [hu] at e1
  rw [hv] at e2
  injection e1 with e1
  injection e2 with e2
  subst e1 e2
  rw [drop_at hu, drop_at hv, dec_pair _ _ _ h1 h2]

theorem wfm_drop {us : List Int} {j : Nat} {u : Int} (hu : us[j]? = some u) (h : pairAt us j = false) : wfm (us.drop j) = (!surB u && wfm (us.drop (j + 1))) := by
  rw [drop_at hu, wfm_step _ _ (head_of (pairAt_false hu h))]

theorem wfm_drop2 {us : List Int} {j : Nat} {u v : Int} (hu : us[j]? = some u) (hv : us[j + 1]? = some v) (h : pairAt us j = true) : wfm (us.drop j) = wfm (us.drop (j + 2)) := by
  obtain ⟨u', v', e1, e2, h1, h2⟩ := pairAt_true h
  rw [hu] at e1
  rw [hv] at e2
  injection e1 with e1
  injection e2 with e2
  subst e1 e2
  rw [drop_at hu, drop_at hv, wfm_pair _ _ _ h1 h2]

theorem cnt_drop {us : List Int} {j : Nat} {u : Int} (hu : us[j]? = some u) : cnt (us.drop j) = (if pairAt us j = true then 1 else 0) + cnt (us.drop (j + 1)) := by
  rw [drop_at hu]
  rcases h2 : us[j + 1]? with _ | v
  · rw [List.drop_eq_nil_of_le (List.getElem?_eq_none_iff.1 h2)]
    simp [cnt, pairAt, hu, h2]
  · rw [drop_at h2, cnt, ← drop_at h2]
    simp [pairAt, hu, h2]

theorem cnt_le (us : List Int) : cnt us ≤ us.length := by
  induction us with
  | nil => simp [cnt]
  | cons u t ih =>
    match t, ih with
    | [], _ => simp [cnt]
    | v :: s, ih =>
      rw [cnt]
      simp only [List.length_cons] at *
      split <;> omega

end Go.Proofs.Ytinmgkimbdcnhaa.U
