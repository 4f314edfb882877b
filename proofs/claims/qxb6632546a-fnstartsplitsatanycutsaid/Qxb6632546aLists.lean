/-
  SEAT b6632546a: PLAIN MATHEMATICS: the counts that 'start' leaves, the places of the zero counts. Nothing of the dump.
-/
import Derived.WalkKit
namespace Go.Proofs.Qxb6632546a
open Go

/-- What 'copy(pending, preds)' leaves in pending. -/
def over (Q P : List Int) : List Int := Q.take P.length ++ P.drop Q.length

theorem over_length (Q P : List Int) : (over Q P).length = P.length := by
  unfold over; simp; omega
theorem over_self (P : List Int) : over P P = P := by unfold over; simp
theorem over_getD (Q P : List Int) (i : Nat) (h : i < P.length) : (over Q P).getD i 0 = if i < Q.length then Q.getD i 0 else P.getD i 0 := by
  unfold over
  simp only [List.getD]
  by_cases hq : i < Q.length
  · rw [if_pos hq, List.getElem?_append_left (by simp; omega), List.getElem?_take, if_pos h]
  · rw [if_neg hq]
    by_cases hqp : Q.length ≤ P.length
    · rw [List.getElem?_append_right (by simp; omega), List.getElem?_drop]
      congr 2; simp; omega
    · omega

theorem over_take (Q P : List Int) (k c : Nat) (hk : k ≤ P.length) (hc : c = min k Q.length) : over (Q.take c) (P.take k) = (over Q P).take k := by
  apply List.ext_getElem?
  intro i
  have hl : (over (Q.take c) (P.take k)).length = k := by rw [over_length]; simp; omega
  by_cases hi : i < k
  · have h1 : i < (over (Q.take c) (P.take k)).length := by omega
    have h2 : i < ((over Q P).take k).length := by rw [List.length_take, over_length]; omega
    have e1 := over_getD (Q.take c) (P.take k) i (by simp; omega)
    have e2 := over_getD Q P i (by omega)
    simp only [List.getD] at e1 e2
    rw [List.getElem?_eq_getElem h1] at e1 ⊢
    rw [List.getElem?_take, if_pos hi]
    rw [List.getElem?_eq_getElem (by rw [over_length]; omega)] at e2 ⊢
    simp only [Option.getD_some] at e1 e2
    rw [e1, e2]
    by_cases hq : i < Q.length
    · rw [if_pos (by simp; omega), if_pos hq, List.getElem?_take, if_pos (by omega)]
    · rw [if_neg (by simp; omega), if_neg hq, List.getElem?_take, if_pos (by omega)]
  · rw [List.getElem?_eq_none (by omega), List.getElem?_eq_none (by rw [List.length_take, over_length]; omega)]

theorem over_drop (Q P : List Int) (k c : Nat) (hk : k ≤ P.length) (hc : c = min k Q.length) : over (Q.drop c) (P.drop k) = (over Q P).drop k := by
  apply List.ext_getElem?
  intro i
  have hl : (over (Q.drop c) (P.drop k)).length = P.length - k := by rw [over_length]; simp
  by_cases hi : i < P.length - k
  · have h1 : i < (over (Q.drop c) (P.drop k)).length := by omega
    have e1 := over_getD (Q.drop c) (P.drop k) i (by simp; omega)
    have e2 := over_getD Q P (k + i) (by omega)
    simp only [List.getD] at e1 e2
    rw [List.getElem?_eq_getElem h1] at e1 ⊢
    rw [List.getElem?_drop]
    rw [List.getElem?_eq_getElem (by rw [over_length]; omega)] at e2 ⊢
    simp only [Option.getD_some] at e1 e2
    rw [e1, e2]
    by_cases hq : k + i < Q.length
    · rw [if_pos (by simp; omega), if_pos hq, List.getElem?_drop, show c + i = k + i by omega]
    · rw [if_neg (by simp; omega), if_neg hq, List.getElem?_drop]
  · rw [List.getElem?_eq_none (by omega), List.getElem?_eq_none (by rw [List.length_drop, over_length]; omega)]

/-- The places below k whose count is zero. -/
def Z (L : List Int) : Nat → List Int
  | 0 => []
  | k + 1 => Z L k ++ if L.getD k 0 = 0 then [(k : Int)] else []

theorem Z_succ_zero (L : List Int) (k : Nat) (h : L.getD k 0 = 0) : Z L (k + 1) = Z L k ++ [(k : Int)] := by rw [Z, if_pos h]
theorem Z_succ_not (L : List Int) (k : Nat) (h : ¬ L.getD k 0 = 0) : Z L (k + 1) = Z L k := by rw [Z, if_neg h, List.append_nil]
theorem Z_length_le (L : List Int) (k : Nat) : (Z L k).length ≤ k := by
  induction k with
  | zero => simp [Z]
  | succ k ih =>
    by_cases h : L.getD k 0 = 0
    · rw [Z_succ_zero L k h]; simp; omega
    · rw [Z_succ_not L k h]; omega

/-- How many of the first k counts are zero. -/
def cntZ (L : List Int) : Nat → Nat
  | 0 => 0
  | k + 1 => cntZ L k + if L.getD k 0 = 0 then 1 else 0

theorem cntZ_le (L : List Int) (k : Nat) : cntZ L k ≤ k := by
  induction k with
  | zero => simp [cntZ]
  | succ k ih => rw [cntZ]; split <;> omega
theorem Z_length (L : List Int) (k : Nat) : (Z L k).length = cntZ L k := by
  induction k with
  | zero => rfl
  | succ k ih =>
    by_cases h : L.getD k 0 = 0
    · rw [Z_succ_zero L k h, cntZ, if_pos h]; simp; omega
    · rw [Z_succ_not L k h, cntZ, if_neg h]; omega

theorem cntZ_congr {L M : List Int} {k : Nat} (h : ∀ i, i < k → L.getD i 0 = M.getD i 0) : cntZ L k = cntZ M k := by
  induction k with
  | zero => rfl
  | succ k ih => rw [cntZ, cntZ, h k (by omega), ih (fun i hi => h i (by omega))]
theorem Z_congr {L M : List Int} {k : Nat} (h : ∀ i, i < k → L.getD i 0 = M.getD i 0) : Z L k = Z M k := by
  induction k with
  | zero => rfl
  | succ k ih => rw [Z, Z, h k (by omega), ih (fun i hi => h i (by omega))]
theorem cntZ_split (L : List Int) (a b : Nat) : cntZ L (a + b) = cntZ L a + cntZ (L.drop a) b := by
  induction b with
  | zero => simp [cntZ]
  | succ b ih =>
    rw [show a + (b + 1) = (a + b) + 1 by omega, cntZ, cntZ, ih]
    have e : (L.drop a).getD b 0 = L.getD (a + b) 0 := by simp only [List.getD]; rw [List.getElem?_drop]
    rw [e]; omega
theorem Z_split (L : List Int) (a b : Nat) : Z L (a + b) = Z L a ++ (Z (L.drop a) b).map (fun x => x + (a : Int)) := by
  induction b with
  | zero => simp [Z]
  | succ b ih =>
    rw [show a + (b + 1) = (a + b) + 1 by omega, Z, Z, ih]
    have e : (L.drop a).getD b 0 = L.getD (a + b) 0 := by simp only [List.getD]; rw [List.getElem?_drop]
    rw [e]
    by_cases h : L.getD (a + b) 0 = 0
    · rw [if_pos h, if_pos h]; simp; omega
    · rw [if_neg h, if_neg h]; simp

/-- Each place below k, its count zero; each greater than those before it. -/
theorem Z_mem (L : List Int) (k : Nat) : ∀ j, j < (Z L k).length → ∃ i : Nat, (Z L k).getD j 0 = (i : Int) ∧ i < k ∧ L.getD i 0 = 0 := by
  induction k with
  | zero => intro j hj; simp [Z] at hj
  | succ k ih =>
    intro j hj
    by_cases h : L.getD k 0 = 0
    · rw [Z_succ_zero L k h] at hj ⊢
      simp only [List.getD] at ih ⊢
      by_cases hj2 : j < (Z L k).length
      · obtain ⟨i, e, hi, h0⟩ := ih j hj2
        rw [List.getElem?_append_left hj2]
        exact ⟨i, e, by omega, h0⟩
      · have : j = (Z L k).length := by simp at hj; omega
        subst this
        exact ⟨k, by simp, by omega, h⟩
    · rw [Z_succ_not L k h] at hj ⊢
      obtain ⟨i, e, hi, h0⟩ := ih j hj
      exact ⟨i, e, by omega, h0⟩
theorem Z_incr (L : List Int) (k : Nat) : ∀ j, j + 1 < (Z L k).length → (Z L k).getD j 0 < (Z L k).getD (j + 1) 0 := by
  induction k with
  | zero => intro j hj; simp [Z] at hj
  | succ k ih =>
    intro j hj
    by_cases h : L.getD k 0 = 0
    · have hm := Z_mem L k
      rw [Z_succ_zero L k h] at hj ⊢
      simp only [List.getD] at ih hm ⊢
      by_cases hj2 : j + 1 < (Z L k).length
      · rw [List.getElem?_append_left hj2, List.getElem?_append_left (by omega)]
        exact ih j hj2
      · have hjl : j + 1 = (Z L k).length := by simp at hj; omega
        obtain ⟨i, e, hi, _⟩ := hm j (by omega)
        rw [List.getElem?_append_left (by omega), e, hjl]
        simp; omega
    · rw [Z_succ_not L k h] at hj ⊢
      exact ih j hj

end Go.Proofs.Qxb6632546a
