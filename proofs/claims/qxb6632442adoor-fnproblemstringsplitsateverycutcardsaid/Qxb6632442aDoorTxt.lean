/-
  PLAIN MATHEMATICS for the seat b6632442aD: the text that Problem.String writes, as a function on lists; nothing of the dump.
-/
import Derived.Lib.ItoaLen
import Derived.Lib.UnsafeStr
namespace Go.Proofs.Qxb6632442aDoor.Txt
open Go Go.Lib

/-- What follows the first entry: each further entry behind a comma. -/
def rest (xs : List Int) : List UInt8 := xs.flatMap fun y => 44 :: itoa y

/-- THE TEXT: the entries in decimal, commas between. -/
def txt : List Int → List UInt8
  | [] => []
  | x :: xs => itoa x ++ rest xs

theorem rest_append (a b : List Int) : rest (a ++ b) = rest a ++ rest b := by simp [rest]
theorem rest_cons (x : Int) (b : List Int) : rest (x :: b) = 44 :: (itoa x ++ rest b) := by simp [rest]
theorem txt_nil : txt [] = [] := rfl
theorem txt_cons (x : Int) (xs : List Int) : txt (x :: xs) = itoa x ++ rest xs := rfl
theorem txt_one (x : Int) : txt [x] = itoa x := by simp [txt, rest]

theorem txt_snoc (l : List Int) (y : Int) (h : l ≠ []) : txt (l ++ [y]) = txt l ++ 44 :: itoa y := by
  cases l with
  | nil => exact absurd rfl h
  | cons x xs => simp [txt, rest]

theorem txt_append (a b : List Int) (ha : a ≠ []) (hb : b ≠ []) : txt (a ++ b) = txt a ++ 44 :: txt b := by
  cases a with
  | nil => exact absurd rfl ha
  | cons x xs =>
    cases b with
    | nil => exact absurd rfl hb
    | cons y ys => simp [txt, rest]

/-! ### digits -/
theorem toNat_digit (k : Nat) (h : k < 10) : (UInt8.ofNat (48 + k)).toNat = 48 + k := by
  simp; omega

theorem dec_small {u : Nat} (h : u < 10) : decDigits u = [UInt8.ofNat (48 + u)] := by rw [decDigits, dif_pos h]
theorem dec_big {u : Nat} (h : ¬ u < 10) : decDigits u = decDigits (u / 10) ++ [UInt8.ofNat (48 + u % 10)] := by rw [decDigits, dif_neg h]

theorem dec_digit (u : Nat) : ∀ d ∈ decDigits u, 48 ≤ d.toNat ∧ d.toNat ≤ 57 := by
  induction u using Nat.strongRecOn with
  | _ u ih =>
    intro d hd
    by_cases h : u < 10
    · rw [dec_small h] at hd
      simp only [List.mem_singleton] at hd
      subst hd
      rw [toNat_digit u h]; omega
    · rw [dec_big h] at hd
      rcases List.mem_append.1 hd with h1 | h1
      · exact ih (u / 10) (by omega) d h1
      · simp only [List.mem_singleton] at h1
        subst h1
        rw [toNat_digit (u % 10) (by omega)]; omega

theorem dec_ne_nil (u : Nat) : decDigits u ≠ [] := by
  intro h
  have := decDigits_length u
  have h1 := nDigits_pos u
  rw [h] at this; simp at this; omega

/-- The number that a list of digits spells. -/
def val (l : List UInt8) : Nat := l.foldl (fun a d => a * 10 + (d.toNat - 48)) 0

theorem val_snoc (l : List UInt8) (d : UInt8) : val (l ++ [d]) = val l * 10 + (d.toNat - 48) := by simp [val]

theorem val_dec (u : Nat) : val (decDigits u) = u := by
  induction u using Nat.strongRecOn with
  | _ u ih =>
    by_cases h : u < 10
    · rw [dec_small h]
      show 0 * 10 + ((UInt8.ofNat (48 + u)).toNat - 48) = u
      rw [toNat_digit u h]; omega
    · rw [dec_big h, val_snoc, ih (u / 10) (by omega), toNat_digit (u % 10) (by omega)]; omega

theorem le_fold (l : List UInt8) : ∀ a : Nat, a ≤ l.foldl (fun a d => a * 10 + (d.toNat - 48)) a := by
  induction l with
  | nil => intro a; exact Nat.le_refl _
  | cons d l ih =>
    intro a
    exact Nat.le_trans (by omega) (ih (a * 10 + (d.toNat - 48)))

theorem val_take_le (l : List UInt8) (j : Nat) : val (l.take j) ≤ val l := by
  have h := le_fold (l.drop j) (val (l.take j))
  have e : val l = (l.drop j).foldl (fun a d => a * 10 + (d.toNat - 48)) (val (l.take j)) := by
    unfold val
    rw [← List.foldl_append, List.take_append_drop]
  rw [e]; exact h

theorem dec_head (u : Nat) (h : 10 ≤ u) : ∃ d t, decDigits u = d :: t ∧ 49 ≤ d.toNat := by
  induction u using Nat.strongRecOn with
  | _ u ih =>
    rw [dec_big (by omega)]
    by_cases h1 : u / 10 < 10
    · rw [dec_small h1]
      exact ⟨_, _, rfl, by rw [toNat_digit _ h1]; omega⟩
    · obtain ⟨d, t, e, hd⟩ := ih (u / 10) (by omega) (by omega)
      rw [e]
      exact ⟨d, t ++ [UInt8.ofNat (48 + u % 10)], rfl, hd⟩

theorem nDigits_le (k : Nat) : ∀ u, u < 10 ^ (k + 1) → nDigits u ≤ k + 1 := by
  induction k with
  | zero => intro u h; rw [nDigits_small (by simpa using h)]; exact Nat.le_refl _
  | succ k ih =>
    intro u h
    by_cases h1 : u < 10
    · rw [nDigits_small h1]; omega
    · rw [nDigits_big h1]
      have := ih (u / 10) (by rw [Nat.pow_succ] at h; omega)
      omega

theorem nDigits_le19 (u : Nat) (h : u ≤ 9223372036854775808) : nDigits u ≤ 19 := nDigits_le 18 u (by omega)

/-! ### the sign and the digits of an entry -/
def mag (x : Int) : Nat := x.natAbs
def sgn (x : Int) : List UInt8 := if x < 0 then [45] else []
theorem itoa_eq (x : Int) : itoa x = sgn x ++ decDigits (mag x) := by
  unfold itoa sgn mag
  by_cases h : x < 0
  · rw [if_pos h, if_pos h]; rfl
  · rw [if_neg h, if_neg h, show x.toNat = x.natAbs by omega]; rfl

theorem itoa_pos (x : Int) : 1 ≤ (itoa x).length := by
  rw [itoa_eq, List.length_append, decDigits_length]
  have := nDigits_pos (mag x); omega

theorem itoa_no_comma (x : Int) : ∀ d ∈ itoa x, d.toNat ≠ 44 := by
  intro d hd
  rw [itoa_eq] at hd
  rcases List.mem_append.1 hd with h | h
  · unfold sgn at h
    split at h
    · simp only [List.mem_singleton] at h; subst h; decide
    · cases h
  · have := dec_digit _ d h; omega

/-! ### how long, how many commas -/
def Fits (l : List Int) : Prop := ∀ n ∈ l, -9223372036854775808 ≤ n ∧ n ≤ 9223372036854775807

theorem rest_length_le (l : List Int) (h : Fits l) : (rest l).length ≤ 22 * l.length := by
  induction l with
  | nil => simp [rest]
  | cons x l ih =>
    rw [rest_cons]
    have h1 := itoa_length_le x (h x (by simp)).1 (h x (by simp)).2
    have h2 := ih (fun n hn => h n (by simp [hn]))
    simp only [List.length_cons, List.length_append]; omega

theorem txt_length_le (l : List Int) (h : Fits l) : (txt l).length ≤ 22 * l.length := by
  cases l with
  | nil => simp [txt]
  | cons x l =>
    have h1 := itoa_length_le x (h x (by simp)).1 (h x (by simp)).2
    have h2 := rest_length_le l (fun n hn => h n (by simp [hn]))
    simp only [txt_cons, List.length_cons, List.length_append]; omega

theorem rest_length_ge (l : List Int) : 2 * l.length ≤ (rest l).length := by
  induction l with
  | nil => simp [rest]
  | cons x l ih =>
    rw [rest_cons]
    have := itoa_pos x
    simp only [List.length_cons, List.length_append]; omega

theorem txt_length_ge (l : List Int) : 2 * l.length ≤ (txt l).length + 1 := by
  cases l with
  | nil => simp
  | cons x l =>
    have := itoa_pos x
    have := rest_length_ge l
    simp only [txt_cons, List.length_cons, List.length_append]; omega

/-- How many commas. -/
def cnt (l : List UInt8) : Nat := (l.filter fun c => c.toNat == 44).length
theorem cnt_append (a b : List UInt8) : cnt (a ++ b) = cnt a + cnt b := by simp [cnt]
theorem cnt_snoc (a : List UInt8) (c : UInt8) : cnt (a ++ [c]) = cnt a + if c.toNat = 44 then 1 else 0 := by
  rw [cnt_append]
  by_cases h : c.toNat = 44 <;> simp [cnt, h]
theorem cnt_le (a : List UInt8) : cnt a ≤ a.length := List.length_filter_le _ _
theorem cnt_itoa (x : Int) : cnt (itoa x) = 0 := by
  unfold cnt
  rw [List.length_eq_zero_iff, List.filter_eq_nil_iff]
  intro d hd h
  exact itoa_no_comma x d hd (by simpa using h)
theorem cnt_rest (l : List Int) : cnt (rest l) = l.length := by
  induction l with
  | nil => rfl
  | cons x l ih =>
    have e : rest (x :: l) = [44] ++ itoa x ++ rest l := by simp [rest]
    rw [e, cnt_append, cnt_append, cnt_itoa, ih]
    simp [cnt]; omega
theorem cnt_txt (x : Int) (l : List Int) : cnt (txt (x :: l)) = l.length := by rw [txt_cons, cnt_append, cnt_itoa, cnt_rest]; omega

end Go.Proofs.Qxb6632442aDoor.Txt
