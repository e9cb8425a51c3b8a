/-
  PLAIN: the conversions of the language, '[]rune(string(list))', on lists of numbers: each number that cannot be encoded becomes U+FFFD.
-/
import Derived.Test.YtmakhfaikpgfnaaPlain
import Derived.Laws.Cover4
import Derived.Laws.IdiomStrings
namespace Go.Proofs.Ytmakhfaikpgfnaa.U

/-- the code point that is written -/
def cp (r : Int) : Nat := if Utf8.valid r = true then r.toNat else 65533

theorem valid_enc (r : Int) : Utf8.valid r = encB r := by
  unfold Utf8.valid encB
  rw [Bool.eq_iff_iff]
  simp
  omega

theorem cp_le (r : Int) : cp r < 55296 ∨ (57344 ≤ cp r ∧ cp r ≤ 1114111) := by
  unfold cp
  split
  · rename_i h
    rw [valid_enc] at h
    simp only [encB, decide_eq_true_eq] at h
    omega
  · omega

theorem cp_rep (r : Int) : Int.ofNat (cp r) = rep r := by
  unfold cp rep
  rw [valid_enc]
  split
  · rename_i h
    simp only [encB, decide_eq_true_eq] at h
    show ((r.toNat : Nat) : Int) = r
    omega
  · rfl

/-- the bytes of a code point -/
def bs (c : Nat) : List UInt8 :=
  if c < 128 then [UInt8.ofNat c]
  else if c < 2048 then [UInt8.ofNat (192 + c / 64), UInt8.ofNat (128 + c % 64)]
  else if c < 65536 then [UInt8.ofNat (224 + c / 4096), UInt8.ofNat (128 + c / 64 % 64), UInt8.ofNat (128 + c % 64)]
  else [UInt8.ofNat (240 + c / 262144), UInt8.ofNat (128 + c / 4096 % 64), UInt8.ofNat (128 + c / 64 % 64), UInt8.ofNat (128 + c % 64)]

def encC (c : Nat) : ByteArray :=
  if c < 128 then ⟨#[UInt8.ofNat c]⟩
  else if c < 2048 then ⟨#[UInt8.ofNat (192 + c / 64), UInt8.ofNat (128 + c % 64)]⟩
  else if c < 65536 then ⟨#[UInt8.ofNat (224 + c / 4096), UInt8.ofNat (128 + c / 64 % 64), UInt8.ofNat (128 + c % 64)]⟩
  else ⟨#[UInt8.ofNat (240 + c / 262144), UInt8.ofNat (128 + c / 4096 % 64), UInt8.ofNat (128 + c / 64 % 64), UInt8.ofNat (128 + c % 64)]⟩

theorem encode_encC (r : Int) : Utf8.encode r = encC (cp r) := rfl

theorem encode_bs (r : Int) : (Utf8.encode r).data.toList = bs (cp r) := by
  rw [encode_encC]
  generalize cp r = c
  unfold encC bs
  repeat' split
  all_goals rfl

theorem bs_pos (c : Nat) : 1 ≤ (bs c).length := by
  unfold bs
  repeat' split
  all_goals simp

theorem get_at (s : ByteArray) (P T : List UInt8) (x : UInt8) (i : Nat) (h : s.data.toList = P ++ x :: T) (hi : P.length = i) : s.get! i = x := by
  have : s.data[i]? = some x := by
    rw [← Array.getElem?_toList, h, List.getElem?_append_right (by omega)]
    simp [hi]
  show s.data[i]! = x
  rw [getElem!_def, this]

theorem nat8 (n : Nat) (h : n < 256) : (UInt8.ofNat n).toNat = n := by
  rw [UInt8.toNat_ofNat']
  omega

theorem decode_at (s : ByteArray) (P T : List UInt8) (c : Nat) (hc : c < 55296 ∨ (57344 ≤ c ∧ c ≤ 1114111)) (h : s.data.toList = P ++ (bs c ++ T)) : Utf8.decode s P.length = (c, (bs c).length) := by
  have hsz : s.size = P.length + (bs c).length + T.length := by
    show s.data.size = _
    rw [← Array.length_toList, h]
    simp; omega
  unfold bs at h hsz ⊢
  by_cases h1 : c < 128
  · simp only [h1, if_true] at h hsz ⊢
    have g0 := get_at s P T _ P.length (by simpa using h) rfl
    unfold Utf8.decode
    simp only [Nat.add_zero, g0, nat8 c (by omega), if_pos h1]
    rfl
  · by_cases h2 : c < 2048
    · simp only [h1, h2, if_true, if_false] at h hsz ⊢
      have g0 := get_at s P _ _ P.length h rfl
      have g1 := get_at s (P ++ [UInt8.ofNat (192 + c / 64)]) T (UInt8.ofNat (128 + c % 64)) (P.length + 1) (by simpa using h) (by simp)
      simp at hsz
      unfold Utf8.decode
      simp only [Nat.add_zero, g0, g1, nat8 (192 + c / 64) (by omega), nat8 (128 + c % 64) (by omega), hsz]
      rw [if_neg (by omega), if_pos (by simp; omega), if_pos (by omega)]
      simp; omega
    · by_cases h3 : c < 65536
      · simp only [h1, h2, h3, if_true, if_false] at h hsz ⊢
        have g0 := get_at s P _ _ P.length h rfl
        have g1 := get_at s (P ++ [UInt8.ofNat (224 + c / 4096)]) (UInt8.ofNat (128 + c % 64) :: T) (UInt8.ofNat (128 + c / 64 % 64)) (P.length + 1) (by simpa using h) (by simp)
        have g2 := get_at s (P ++ [UInt8.ofNat (224 + c / 4096), UInt8.ofNat (128 + c / 64 % 64)]) T (UInt8.ofNat (128 + c % 64)) (P.length + 2) (by simpa using h) (by simp)
        simp at hsz
        unfold Utf8.decode
        simp only [Nat.add_zero, g0, g1, g2, nat8 (224 + c / 4096) (by omega), nat8 (128 + c / 64 % 64) (by omega), nat8 (128 + c % 64) (by omega), hsz]
        have e : (224 + c / 4096) % 16 * 4096 + (128 + c / 64 % 64) % 64 * 64 + (128 + c % 64) % 64 = c := by omega
        rw [if_neg (by omega), if_neg (by simp; omega), if_pos (by simp; omega)]
        simp only [e]
        rw [if_pos (by simp [Utf8.valid]; omega)]
        rfl
      · simp only [h1, h2, h3, if_false] at h hsz ⊢
        have g0 := get_at s P _ _ P.length h rfl
        have g1 := get_at s (P ++ [UInt8.ofNat (240 + c / 262144)]) (UInt8.ofNat (128 + c / 64 % 64) :: UInt8.ofNat (128 + c % 64) :: T) (UInt8.ofNat (128 + c / 4096 % 64)) (P.length + 1) (by simpa using h) (by simp)
        have g2 := get_at s (P ++ [UInt8.ofNat (240 + c / 262144), UInt8.ofNat (128 + c / 4096 % 64)]) (UInt8.ofNat (128 + c % 64) :: T) (UInt8.ofNat (128 + c / 64 % 64)) (P.length + 2) (by simpa using h) (by simp)
        have g3 := get_at s (P ++ [UInt8.ofNat (240 + c / 262144), UInt8.ofNat (128 + c / 4096 % 64), UInt8.ofNat (128 + c / 64 % 64)]) T (UInt8.ofNat (128 + c % 64)) (P.length + 3) (by simpa using h) (by simp)
        simp at hsz
        unfold Utf8.decode
        simp only [Nat.add_zero, g0, g1, g2, g3, nat8 (240 + c / 262144) (by omega), nat8 (128 + c / 4096 % 64) (by omega), nat8 (128 + c / 64 % 64) (by omega), nat8 (128 + c % 64) (by omega), hsz]
        have e : (240 + c / 262144) % 8 * 262144 + (128 + c / 4096 % 64) % 64 * 4096 + (128 + c / 64 % 64) % 64 * 64 + (128 + c % 64) % 64 = c := by omega
        rw [if_neg (by omega), if_neg (by simp; omega), if_neg (by simp; omega), if_pos (by simp; omega)]
        simp only [e]
        rw [if_pos (by simp [Utf8.valid]; omega)]
        rfl

/-- all bytes of a list of numbers -/
def bsAll (ns : List Int) : List UInt8 := ns.flatMap fun n => bs (cp n)

theorem runesBytes_data (ns : List Int) : ∀ s : ByteArray, (ns.foldl (fun r n => r ++ Utf8.encode n) s).data.toList = s.data.toList ++ bsAll ns := by
  induction ns with
  | nil => intro s; simp [bsAll]
  | cons n ns ih =>
    intro s
    rw [List.foldl_cons, ih, ByteArray.data_append, Array.toList_append, encode_bs]
    simp [bsAll]

theorem bsAll_len (ns : List Int) : ns.length ≤ (bsAll ns).length := by
  induction ns with
  | nil => simp [bsAll]
  | cons n ns ih =>
    have := bs_pos (cp n)
    simp only [bsAll, List.flatMap_cons, List.length_append, List.length_cons] at ih ⊢
    omega

theorem runesFrom_all (s : ByteArray) (ns : List Int) : ∀ (P : List UInt8) (bound : Nat) (acc : Array Value), s.data.toList = P ++ bsAll ns → ns.length ≤ bound →
    Conv.runesFrom s bound P.length acc = acc ++ (ns.map fun n => Value.int .i32 (rep n)).toArray := by
  induction ns with
  | nil =>
    intro P bound acc h hb
    have hsz : s.size = P.length := by
      show s.data.size = _
      rw [← Array.length_toList, h]
      simp [bsAll]
    cases bound with
    | zero => simp [Conv.runesFrom]
    | succ b => simp [Conv.runesFrom, hsz]
  | cons n ns ih =>
    intro P bound acc h hb
    cases bound with
    | zero => simp at hb
    | succ b =>
      have h' : s.data.toList = P ++ (bs (cp n) ++ bsAll ns) := by simpa [bsAll] using h
      have hsz : s.size = P.length + (bs (cp n)).length + (bsAll ns).length := by
        show s.data.size = _
        rw [← Array.length_toList, h']
        simp; omega
      have hp := bs_pos (cp n)
      have hd := decode_at s P (bsAll ns) (cp n) (cp_le n) h'
      unfold Conv.runesFrom
      rw [if_pos (by omega)]
      simp only [hd]
      have := ih (P ++ bs (cp n)) b (acc.push (.int .i32 (Int.ofNat (cp n)))) (by simpa using h') (by simpa using hb)
      rw [List.length_append] at this
      rw [this, cp_rep]
      simp

theorem runesFrom_runesBytes (ns : List Int) : Conv.runesFrom (runesBytes ns) (runesBytes ns).size 0 #[] = (ns.map fun n => Value.int .i32 (rep n)).toArray := by
  have h : (runesBytes ns).data.toList = [] ++ bsAll ns := by
    have := runesBytes_data ns ByteArray.empty
    simpa [runesBytes] using this
  have hsz : (runesBytes ns).size = (bsAll ns).length := by
    show (runesBytes ns).data.size = _
    rw [← Array.length_toList, h]
    simp
  have := runesFrom_all (runesBytes ns) ns [] (runesBytes ns).size #[] h (by rw [hsz]; exact bsAll_len ns)
  simpa using this

end Go.Proofs.Ytmakhfaikpgfnaa.U
