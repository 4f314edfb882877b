/-
  PLAIN MATHEMATICS for the seat b6632442aD, second part: where the entries' bytes lie in the text. Nothing of the dump.
-/
import Derived.Test.Qxb6632442aDoorTxt
namespace Go.Proofs.Qxb6632442aDoor.Txt
open Go Go.Lib

/-- The i-th byte as a number. -/
def byteAt (s : ByteArray) (i : Nat) : Nat := (s.data.toList.getD i 0).toNat
theorem byteAt_eq (s : ByteArray) (i : Nat) (h : i < s.size) : (s[i]'h).toNat = byteAt s i := by
  have h' : i < s.data.toList.length := by simpa using h
  unfold byteAt
  rw [List.getD, List.getElem?_eq_getElem h']
  rfl
theorem byteAt_of {s : ByteArray} {l : List UInt8} (hs : s.data.toList = l) {i : Nat} {c : UInt8} (h : l[i]? = some c) : byteAt s i = c.toNat := by
  unfold byteAt
  rw [hs, List.getD, h]; rfl

def sep (k : Nat) : List UInt8 := if k = 0 then [] else [44]

theorem take_cons_drop (L : List Int) (k : Nat) (hk : k < L.length) : L = L.take k ++ L[k] :: L.drop (k + 1) := by
  have := List.take_append_drop k L
  rw [List.drop_eq_getElem_cons hk] at this
  exact this.symm

theorem take_ne (L : List Int) (k : Nat) (hk : k < L.length) (h : ¬ k = 0) : L.take k ≠ [] := by
  intro e
  rcases List.take_eq_nil_iff.1 e with e | e
  · exact h e
  · subst e; simp at hk

theorem txt_take_succ (L : List Int) (k : Nat) (hk : k < L.length) : txt (L.take (k + 1)) = txt (L.take k) ++ (sep k ++ itoa L[k]) := by
  rw [List.take_succ_eq_append_getElem hk]
  unfold sep
  by_cases h : k = 0
  · subst h; simp [txt, rest]
  · rw [if_neg h, txt_snoc _ _ (take_ne L k hk h)]
    simp

theorem txt_split (L : List Int) (k : Nat) (hk : k < L.length) : txt L = txt (L.take k) ++ (sep k ++ (itoa L[k] ++ rest (L.drop (k + 1)))) := by
  unfold sep
  by_cases h : k = 0
  · subst h
    rw [if_pos rfl]
    have e := take_cons_drop L 0 hk
    rw [List.take_zero, List.nil_append] at e
    conv => lhs; rw [e]
    simp [txt]
  · rw [if_neg h]
    conv => lhs; rw [take_cons_drop L k hk]
    rw [txt_append (L.take k) (L[k] :: L.drop (k + 1)) (take_ne L k hk h) (List.cons_ne_nil _ _)]
    simp [txt]

theorem rest_head (l : List Int) : rest l = [] ∨ ∃ t, rest l = 44 :: t := by
  cases l with
  | nil => exact .inl rfl
  | cons x l => exact .inr ⟨_, rest_cons x l⟩

/-- The place of an entry: behind P bytes, behind a comma (c is 1), behind a sign (g is 1), nd digits. -/
structure Place (s : ByteArray) (x : Int) (k P P' c g nd : Nat) : Prop where
  c0 : k = 0 → c = 0
  c1 : k ≠ 0 → c = 1 ∧ P < s.size ∧ byteAt s P = 44
  g0 : 0 ≤ x → g = 0 ∧ 48 ≤ byteAt s (P + c)
  g1 : x < 0 → g = 1 ∧ byteAt s (P + c) = 45
  nd1 : 1 ≤ nd
  nd19 : nd ≤ 19
  next : P' = P + c + g + nd
  fit : P' ≤ s.size
  dig : ∀ j, j < nd → ∃ d, byteAt s (P + c + g + j) = d ∧ 48 ≤ d ∧ d ≤ 57 ∧ val ((decDigits (mag x)).take (j + 1)) = val ((decDigits (mag x)).take j) * 10 + (d - 48) ∧ (d - 48) + val ((decDigits (mag x)).take j) * 10 ≤ mag x
  full : val ((decDigits (mag x)).take nd) = mag x
  stop : P' < s.size → byteAt s P' = 44
  first : 1 < nd → 49 ≤ byteAt s (P + c + g)

theorem app_lt {A B : List UInt8} {i : Nat} (h : i < A.length) : (A ++ B)[i]? = A[i]? := List.getElem?_append_left h
theorem app_at {A B : List UInt8} {n i : Nat} (h : n = A.length + i) : (A ++ B)[n]? = B[i]? := by
  rw [List.getElem?_append_right (by omega)]; congr 1; omega

theorem place_of (s : ByteArray) (x : Int) (k : Nat) (A R : List UInt8) (h0 : -9223372036854775808 ≤ x) (h1 : x ≤ 9223372036854775807)
    (hs : s.data.toList = A ++ (sep k ++ (itoa x ++ R))) (hR : R = [] ∨ ∃ t, R = 44 :: t) :
    Place s x k A.length (A ++ (sep k ++ itoa x)).length (sep k).length (sgn x).length (decDigits (mag x)).length := by
  have hm : mag x ≤ 9223372036854775808 := by unfold mag; omega
  have hsz : s.size = (A ++ (sep k ++ (itoa x ++ R))).length := by rw [← hs]; rfl
  have hdl := decDigits_length (mag x)
  have hd1 := nDigits_pos (mag x)
  have hd19 := nDigits_le19 (mag x) hm
  have e1 : s.data.toList = (A ++ sep k) ++ (itoa x ++ R) := by rw [hs]; simp
  have e2 : s.data.toList = (A ++ sep k ++ sgn x) ++ (decDigits (mag x) ++ R) := by rw [hs, itoa_eq]; simp
  have e3 : s.data.toList = (A ++ sep k ++ sgn x ++ decDigits (mag x)) ++ R := by rw [hs, itoa_eq]; simp
  have hil : (itoa x).length = (sgn x).length + (decDigits (mag x)).length := by rw [itoa_eq, List.length_append]
  have hdig : ∀ j, (hj : j < (decDigits (mag x)).length) → byteAt s (A.length + (sep k).length + (sgn x).length + j) = ((decDigits (mag x))[j]).toNat := by
    intro j hj
    refine byteAt_of e2 ?_
    rw [app_at (i := j) (by simp; omega), app_lt hj, List.getElem?_eq_getElem hj]
  refine ⟨?_, ?_, ?_, ?_, by omega, by omega, by simp; omega, ?_, ?_, ?_, ?_, ?_⟩
  · intro h; subst h; rfl
  · intro h
    have hc : sep k = [44] := if_neg h
    rw [hc]
    refine ⟨rfl, by rw [hsz, hc]; simp, ?_⟩
    have := byteAt_of (c := 44) (i := A.length) hs (by rw [app_at (i := 0) (by simp), hc]; rfl)
    rw [this]; rfl
  · intro h
    have hg : sgn x = [] := if_neg (by omega)
    refine ⟨by rw [hg]; rfl, ?_⟩
    have := hdig 0 (by omega)
    rw [hg] at this
    have h2 := dec_digit (mag x) _ (List.getElem_mem (show 0 < (decDigits (mag x)).length by omega))
    simp only [List.length_nil, Nat.add_zero] at this
    omega
  · intro h
    have hg : sgn x = [45] := if_pos h
    refine ⟨by rw [hg]; rfl, ?_⟩
    have := byteAt_of (c := 45) (i := A.length + (sep k).length) e1 (by rw [app_at (i := 0) (by simp), itoa_eq, hg]; rfl)
    rw [this]; rfl
  · rw [hsz]; simp
  · intro j hj
    refine ⟨_, hdig j hj, ?_⟩
    have h2 := dec_digit (mag x) _ (List.getElem_mem hj)
    have h3 : val ((decDigits (mag x)).take (j + 1)) = val ((decDigits (mag x)).take j) * 10 + (((decDigits (mag x))[j]).toNat - 48) := by
      rw [List.take_succ_eq_append_getElem hj, val_snoc]
    have h4 := val_take_le (decDigits (mag x)) (j + 1)
    rw [val_dec] at h4
    exact ⟨h2.1, h2.2, h3, by omega⟩
  · rw [List.take_length, val_dec]
  · intro h
    rcases hR with hR | ⟨t, hR⟩
    · rw [hsz, hR] at h; simp at h
    · have := byteAt_of (c := 44) (i := (A ++ (sep k ++ itoa x)).length) e3 (by rw [app_at (i := 0) (by simp; omega), hR]; rfl)
      rw [this]; rfl
  · intro h
    have h10 : 10 ≤ mag x := by
      rcases Nat.lt_or_ge (mag x) 10 with h' | h'
      · rw [nDigits_small h'] at hdl; omega
      · exact h'
    obtain ⟨d, t, e, hd⟩ := dec_head (mag x) h10
    have h2 := hdig 0 (by omega)
    simp only [e, List.getElem_cons_zero, Nat.add_zero] at h2
    omega

theorem place (L : List Int) (s : ByteArray) (hs : s.data.toList = txt L) (hF : Fits L) (k : Nat) (hk : k < L.length) :
    ∃ c g nd, Place s L[k] k (txt (L.take k)).length (txt (L.take (k + 1))).length c g nd := by
  have hx := hF L[k] (List.getElem_mem hk)
  rw [txt_take_succ L k hk]
  exact ⟨_, _, _, place_of s L[k] k _ _ hx.1 hx.2 (hs.trans (txt_split L k hk)) (rest_head _)⟩

end Go.Proofs.Qxb6632442aDoor.Txt
