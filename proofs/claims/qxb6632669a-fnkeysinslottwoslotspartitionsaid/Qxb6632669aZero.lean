/-
  SEAT b6632669a: the zero Store: its 16391 cells, known by what they hold.
-/
import Derived.Test.Qxb6632669aProg
import Derived.KernelRfl
namespace Go.Proofs.Qxb6632669a
open Go

def isNilMap : Value → Bool
  | .map none => true
  | _ => false
theorem isNilMap_eq {v : Value} (h : isNilMap v = true) : v = .map none := by
  unfold isNilMap at h
  split at h
  · rfl
  · cases h

/-- The cells of an aggregate's zero value. -/
def cellsOfZero (o : Option Value) : List Value := match o with
  | some (.agg cs) => cs.toList
  | _ => []
def isAggOpt (o : Option Value) : Bool := match o with
  | some (.agg _) => true
  | _ => false
theorem agg_of {o : Option Value} (h : isAggOpt o = true) : o = some (.agg (cellsOfZero o).toArray) := by
  unfold isAggOpt at h
  split at h
  · simp [cellsOfZero]
  · cases h

/-- Just n cells, nil maps alone. -/
def nilsFrom : List Value → Nat → Bool
  | [], n => n == 0
  | v :: l, n => isNilMap v && (n != 0 && nilsFrom l (n - 1))

theorem nilsFrom_spec : ∀ (l : List Value) (n : Nat), nilsFrom l n = true → l.length = n ∧ (∀ v ∈ l, v = .map none)
  | [], n, h => by
    simp [nilsFrom] at h
    exact ⟨by simp [h], fun v hv => by cases hv⟩
  | v :: l, n, h => by
    simp only [nilsFrom, Bool.and_eq_true, bne_iff_ne, ne_eq] at h
    obtain ⟨h1, h2, h3⟩ := h
    obtain ⟨h4, h5⟩ := nilsFrom_spec l (n - 1) h3
    refine ⟨by simp [h4]; omega, fun u hu => ?_⟩
    rcases List.mem_cons.1 hu with rfl | hu
    · exact isNilMap_eq h1
    · exact h5 u hu

theorem zero_agg : isAggOpt Try.t48.zero = true := by kernel_rfl
theorem zero_take : (cellsOfZero Try.t48.zero).take 7 = [.int .i32 0, .int .u32 0, .int .u32 0, .int .u32 0, .int .i32 0, .int .i32 0, .map none] := by kernel_rfl
theorem zero_nils : nilsFrom ((cellsOfZero Try.t48.zero).drop 6) 16385 = true := by kernel_rfl

/-- THE ZERO STORE's CELLS: sixteen thousand and some, the lock's six first, nil maps behind. -/
theorem zero_ex : ∃ Z : List Value, Try.t48.zero = some (.agg Z.toArray) ∧ Z.length = 16391 ∧ Z[0]? = some (.int .i32 0) ∧ Z[2]? = some (.int .u32 0) ∧ Z[3]? = some (.int .u32 0) ∧ Z[4]? = some (.int .i32 0) ∧
    (∀ j, 6 ≤ j → j < 16391 → Z[j]? = some (.map none)) := by
  refine ⟨_, agg_of zero_agg, ?_⟩
  have ht := zero_take
  have hn := nilsFrom_spec _ _ zero_nils
  generalize cellsOfZero Try.t48.zero = Z at ht hn
  have hl : Z.length = 16391 := by
    have := hn.1
    rw [List.length_drop] at this
    omega
  have hat : ∀ j, j < 7 → Z[j]? = (Z.take 7)[j]? := fun j hj => by rw [List.getElem?_take, if_pos hj]
  refine ⟨hl, by rw [hat 0 (by omega), ht]; rfl, by rw [hat 2 (by omega), ht]; rfl, by rw [hat 3 (by omega), ht]; rfl, by rw [hat 4 (by omega), ht]; rfl, fun j h1 h2 => ?_⟩
  have hj : j - 6 < (Z.drop 6).length := by rw [hn.1]; omega
  have := hn.2 _ (List.getElem_mem hj)
  rw [List.getElem_drop] at this
  rw [List.getElem?_eq_getElem (by omega)]
  congr 1
  rw [← this]
  congr 1
  omega

end Go.Proofs.Qxb6632669a
