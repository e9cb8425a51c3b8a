/-
  PLAIN: UTF-16 on lists, more: joining, counting pairs, surrogates alone.
-/
import Derived.Test.YtinmgkimbdcnhaaPlainL
namespace Go.Proofs.Ytinmgkimbdcnhaa.U

theorem dec_join_whole (us vs : List Int) : wfm us = true → dec (us ++ vs) = dec us ++ dec vs := by
  refine pairs_ind (P := fun us => wfm us = true → dec (us ++ vs) = dec us ++ dec vs) ?_ ?_ ?_ us
  · intro _; rfl
  · intro u v t h1 h2 ih hw
    rw [wfm_pair u v t h1 h2] at hw
    show dec (u :: v :: (t ++ vs)) = _
    rw [dec_pair _ _ _ h1 h2, dec_pair _ _ _ h1 h2, ih hw]
    rfl
  · intro u t hc ih hw
    rw [wfm_step u t hc] at hw
    simp only [Bool.and_eq_true, Bool.not_eq_true'] at hw
    show dec (u :: (t ++ vs)) = _
    rw [dec_nosur _ _ hw.1, dec_nosur _ _ hw.1, ih hw.2]
    rfl

/-- a pair is cut between two lists -/
def cutP (us vs : List Int) : Prop := ∃ a u v b, us = a ++ [u] ∧ vs = v :: b ∧ hiB u = true ∧ loB v = true

theorem dec_join (us vs : List Int) : ¬ cutP us vs → dec (us ++ vs) = dec us ++ dec vs := by
  refine pairs_ind (P := fun us => ¬ cutP us vs → dec (us ++ vs) = dec us ++ dec vs) ?_ ?_ ?_ us
  · intro _; rfl
  · intro u v t h1 h2 ih hc
    have hc' : ¬ cutP t vs := by
      rintro ⟨a, x, y, b, e1, e2, e3, e4⟩
      exact hc ⟨u :: v :: a, x, y, b, by rw [e1]; rfl, e2, e3, e4⟩
    show dec (u :: v :: (t ++ vs)) = _
    rw [dec_pair _ _ _ h1 h2, dec_pair _ _ _ h1 h2, ih hc']
    rfl
  · intro u t hh ih hc
    have hc' : ¬ cutP t vs := by
      rintro ⟨a, x, y, b, e1, e2, e3, e4⟩
      exact hc ⟨u :: a, x, y, b, by rw [e1]; rfl, e2, e3, e4⟩
    show dec (u :: (t ++ vs)) = _
    rw [dec_step u t hh, dec_step u (t ++ vs) ?_, ih hc']
    · rfl
    · rcases hh with h | h | ⟨v, s, h, h'⟩
      · exact .inl h
      · subst h
        match vs, hc with
        | [], _ => exact .inr (.inl rfl)
        | v :: b, hc =>
          cases h1 : hiB u
          · exact .inl rfl
          · cases h2 : loB v
            · exact .inr (.inr ⟨v, b, rfl, h2⟩)
            · exact absurd ⟨[], u, v, b, rfl, rfl, h1, h2⟩ hc
      · subst h
        exact .inr (.inr ⟨v, s ++ vs, rfl, h'⟩)

theorem dec_cut (a b : List Int) (u v : Int) (h1 : hiB u = true) (h2 : loB v = true) :
    dec ((a ++ [u]) ++ (v :: b)) = dec a ++ dr u v :: dec b ∧ dec (a ++ [u]) = dec a ++ [65533] ∧ dec (v :: b) = 65533 :: dec b := by
  have hn : ∀ c, ¬ cutP a (u :: c) := by
    rintro c ⟨a', x, y, b', e1, e2, e3, e4⟩
    injection e2 with e2 _
    subst e2
    rw [hi_lo h1] at e4
    cases e4
  refine ⟨?_, ?_, ?_⟩
  · rw [List.append_assoc, List.singleton_append, dec_join a _ (hn _), dec_pair _ _ _ h1 h2]
  · rw [dec_join a _ (hn _)]
    show dec a ++ [one u] = _
    rw [one_sur (sur_of_hi h1)]
  · rw [dec_step v b (.inl (lo_hi h2)), one_sur (sur_of_lo h2)]

theorem cnt_step (u : Int) (t : List Int) (h : hiB u = false ∨ t = [] ∨ ∃ v s, t = v :: s ∧ loB v = false) : cnt (u :: t) = cnt t := by
  match t, h with
  | [], _ => rfl
  | v :: s, h =>
    rw [cnt, if_neg, Nat.zero_add]
    rintro ⟨h1, h2⟩
    rcases h with h | h | ⟨v', s', h, h'⟩
    · rw [h1] at h; cases h
    · cases h
    · injection h with h3 h4
      subst h3
      rw [h2] at h'; cases h'

theorem cnt_pair (u v : Int) (t : List Int) (h1 : hiB u = true) (h2 : loB v = true) : cnt (u :: v :: t) = 1 + cnt t := by
  rw [cnt, if_pos ⟨h1, h2⟩, cnt_step v t (.inl (lo_hi h2))]

theorem dec_cnt (us : List Int) : (dec us).length + cnt us = us.length ∧ us.length ≤ 2 * (dec us).length := by
  refine pairs_ind (P := fun us => (dec us).length + cnt us = us.length ∧ us.length ≤ 2 * (dec us).length) ?_ ?_ ?_ us
  · exact ⟨rfl, by simp⟩
  · intro u v t h1 h2 ih
    rw [dec_pair _ _ _ h1 h2, cnt_pair _ _ _ h1 h2]
    simp only [List.length_cons]
    omega
  · intro u t hh ih
    rw [dec_step u t hh, cnt_step u t hh]
    simp only [List.length_cons]
    omega

theorem wfm_units (u : Int) (t : List Int) : wfm (units u ++ t) = wfm t := by
  rcases units_cases u with ⟨h0, h1, h2, h3, h⟩ | ⟨h0, h1, h2, h3, h4, h⟩ | ⟨h0, h⟩
  · rw [h, List.singleton_append, wfm_step u t (.inl (hi_of_nosur h3)), h3]; rfl
  · rw [h]
    show wfm (er1 u :: er2 u :: t) = _
    rw [wfm_pair _ _ _ h3 h4]
  · rw [h, List.singleton_append, wfm_step _ t (.inl rfl)]; rfl

theorem wfm_enc (us : List Int) : wfm (enc us) = true := by
  induction us with
  | nil => rfl
  | cons u us ih => rw [enc_cons, wfm_units, ih]

/-- how many numbers have a pair -/
def two (us : List Int) : Nat := (us.filter fun u => decide (rlen u = 2)).length

theorem two_le (us : List Int) : two us ≤ us.length := List.length_filter_le _ _

theorem two_cons (u : Int) (us : List Int) : two (u :: us) = (if rlen u = 2 then 1 else 0) + two us := by
  unfold two
  by_cases h : rlen u = 2 <;> simp [h] <;> omega

theorem two_snoc (us : List Int) (u : Int) : two (us ++ [u]) = two us + if rlen u = 2 then 1 else 0 := by
  unfold two
  rw [List.filter_append]
  by_cases h : rlen u = 2 <;> simp [h]

theorem units_two (u : Int) (t : List Int) : (units u).length = 1 + (if rlen u = 2 then 1 else 0) ∧ cnt (units u ++ t) = (if rlen u = 2 then 1 else 0) + cnt t := by
  rcases units_cases u with ⟨h0, h1, h2, h3, h⟩ | ⟨h0, h1, h2, h3, h4, h⟩ | ⟨h0, h⟩
  · rw [h, List.singleton_append, cnt_step u t (.inl (hi_of_nosur h3)), if_neg (by rw [rlen_two_iff]; omega)]
    simp
  · rw [h, if_pos (rlen_two ⟨h1, h2⟩)]
    exact ⟨rfl, cnt_pair _ _ _ h3 h4⟩
  · rw [h, List.singleton_append, cnt_step _ t (.inl rfl)]
    have : rlen u ≠ 2 := by
      rcases len_cases u with ⟨h, _⟩ | ⟨h, _⟩ | ⟨_, h⟩
      · rw [h0] at h; cases h
      · rw [h0] at h; cases h
      · rw [h]; omega
    rw [if_neg this]
    simp

theorem enc_two (us : List Int) : cnt (enc us) = two us ∧ (enc us).length = us.length + two us := by
  induction us with
  | nil => exact ⟨rfl, rfl⟩
  | cons u us ih =>
    have h := units_two u (enc us)
    rw [enc_cons, h.2, two_cons, List.length_append, List.length_cons]
    omega

theorem units_rlen (u : Int) (h : encB u = true) : ((units u).length : Int) = rlen u := by
  rcases units_cases u with ⟨h0, h1, h2, h3, h4⟩ | ⟨h0, h1, h2, h3, h4, h5⟩ | ⟨h0, _⟩
  · rcases len_cases u with ⟨_, _, h5⟩ | ⟨_, h6, _⟩ | ⟨h6, _⟩
    · rw [h4, h5]; rfl
    · omega
    · rw [h0] at h6; cases h6
  · rw [h5, rlen_two ⟨h1, h2⟩]; rfl
  · rw [h0] at h; cases h

theorem enc_inj (us vs : List Int) : enc us = enc vs ↔ us.map rep = vs.map rep := by
  constructor
  · intro h
    rw [← dec_enc, ← dec_enc, h]
  · intro h
    rw [← enc_map_rep us, ← enc_map_rep vs, h]

theorem dec_inj (us vs : List Int) (h1 : isU us) (h2 : isU vs) (h3 : wfm us = true) (h4 : wfm vs = true) : dec us = dec vs ↔ us = vs := by
  constructor
  · intro h
    rw [← enc_dec us h1 h3, ← enc_dec vs h2 h4, h]
  · intro h
    rw [h]

theorem enc_dec_iff (us : List Int) (h : isU us) : enc (dec us) = us ↔ wfm us = true := by
  constructor
  · intro e
    rw [← e]; exact wfm_enc _
  · exact enc_dec us h

theorem dec_rep (us : List Int) (h : isU us) : (dec us).map rep = dec us := by
  apply rep_same
  rw [List.all_eq_true]
  exact dec_encB us h

theorem dec_back (us : List Int) (r : Int) (h : wfm us = true) : dec (us ++ units r) = dec us ++ [rep r] := by
  rw [dec_join_whole _ _ h]
  have := dec_units r []
  rw [List.append_nil] at this
  rw [this]; rfl

/-- a surrogate that is not half of a pair -/
def alone (us : List Int) (i : Nat) (u : Int) : Bool := surB u && !pairAt us i && !(decide (0 < i) && pairAt us (i - 1))

theorem pairAt_succ (u : Int) (t : List Int) (i : Nat) : pairAt (u :: t) (i + 1) = pairAt t i := by simp [pairAt]

theorem pairAt_head {u v : Int} {t : List Int} (h1 : hiB u = true) (h2 : loB v = true) : pairAt (u :: v :: t) 0 = true := by simp [pairAt, h1, h2]

theorem pairAt_nohi {u : Int} {t : List Int} (h : hiB u = false) : pairAt (u :: t) 0 = false := by
  simp only [pairAt, List.getElem?_cons_zero]
  split
  · rename_i h1 _
    injection h1 with h1
    rw [← h1, h]; rfl
  · rfl

theorem pairAt_nohead {u : Int} {t : List Int} (h : hiB u = false ∨ t = [] ∨ ∃ v s, t = v :: s ∧ loB v = false) : pairAt (u :: t) 0 = false := by
  rcases h with h | h | ⟨v, s, h, h'⟩
  · exact pairAt_nohi h
  · subst h; simp [pairAt]
  · subst h; simp [pairAt, h']

theorem units_one {u : Int} (h : 0 ≤ u ∧ u ≤ 65535) : units (one u) = [one u] := by
  cases hs : surB u
  · rw [one_nosur hs, enc_one_nosur h hs]
  · rw [one_sur hs]; rfl

theorem enc_dec_at (us : List Int) : isU us → (enc (dec us)).length = us.length ∧ ∀ i u, us[i]? = some u → (enc (dec us))[i]? = some (if alone us i u = true then 65533 else u) := by
  refine pairs_ind (P := fun us => isU us → (enc (dec us)).length = us.length ∧ ∀ i u, us[i]? = some u → (enc (dec us))[i]? = some (if alone us i u = true then 65533 else u)) ?_ ?_ ?_ us
  · intro _
    exact ⟨rfl, fun i u h => by simp at h⟩
  · intro u v t h1 h2 ih hU
    obtain ⟨il, ia⟩ := ih (isU_tail (isU_tail hU))
    rw [dec_pair _ _ _ h1 h2, enc_cons, units_dr h1 h2]
    have hp := pairAt_head (t := t) h1 h2
    refine ⟨by simp [il], fun i x hx => ?_⟩
    match i, hx with
    | 0, hx =>
      have : u = x := by simpa using hx
      subst this
      simp [alone, hp]
    | 1, hx =>
      have : v = x := by simpa using hx
      subst this
      simp [alone, hp]
    | k + 2, hx =>
      have hx' : t[k]? = some x := by simpa using hx
      have e : alone (u :: v :: t) (k + 2) x = alone t k x := by
        unfold alone
        rw [pairAt_succ, pairAt_succ]
        match k with
        | 0 =>
          show _ = (surB x && !pairAt t 0 && !(decide (0 < 0) && _))
          rw [show (0 + 2 - 1 : Nat) = 0 + 1 from rfl, pairAt_succ, pairAt_nohi (lo_hi h2)]
          simp
        | m + 1 =>
          rw [show (m + 1 + 2 - 1 : Nat) = m + 1 + 1 from rfl, pairAt_succ, pairAt_succ]
          simp
      rw [e, ← ia k x hx']
      rfl
  · intro u t hh ih hU
    obtain ⟨il, ia⟩ := ih (isU_tail hU)
    rw [dec_step u t hh, enc_cons, units_one (isU_head hU)]
    have hp := pairAt_nohead hh
    refine ⟨by simp [il], fun i x hx => ?_⟩
    match i, hx with
    | 0, hx =>
      have : u = x := by simpa using hx
      subst this
      simp [alone, hp, one]
    | k + 1, hx =>
      have hx' : t[k]? = some x := by simpa using hx
      have e : alone (u :: t) (k + 1) x = alone t k x := by
        unfold alone
        rw [pairAt_succ]
        match k with
        | 0 =>
          rw [show (0 + 1 - 1 : Nat) = 0 from rfl, hp]
          simp
        | m + 1 =>
          rw [show (m + 1 + 1 - 1 : Nat) = m + 1 from rfl, pairAt_succ]
          simp
      rw [e, ← ia k x hx']
      rfl

end Go.Proofs.Ytinmgkimbdcnhaa.U
