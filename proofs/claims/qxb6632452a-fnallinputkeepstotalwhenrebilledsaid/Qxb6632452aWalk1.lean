/-
  SEAT b6632452a: contracts of b1Tokens, AllInput, b1Add.
-/
import Derived.Test.Qxb6632452aRows
import Derived.WalkKit
namespace Go.Proofs.Qxb6632452a
open Go Go.RowKit

/-- A Tokens value. -/
abbrev tk (a o c0 c1 c2 i q h : Int) : Value := .agg #[.int .i64 a, .int .i64 o, .int .i64 c0, .int .i64 c1, .int .i64 c2, .int .i64 i, .int .i64 q, .int .i64 h]

theorem tokens_any (a o c0 c1 c2 i q h : Int) (w : World) :
    Calls Try.prog 5 #[.int .i64 a, .int .i64 o, .int .i64 c0, .int .i64 c1, .int .i64 c2, .int .i64 i, .int .i64 q, .int .i64 h] w fun e w' => e = .returned (tk a o c0 c1 c2 i q h) ∧ Below w.heap.size w w' := by
  go_enter Try.func5, Try.ntmps5
  go_wp2
  refine bodyPost_ret (v := tk a o c0 c1 c2 i q h) (by simp [results, Try.results5, go_sem]) rfl ⟨rfl, ?_⟩
  exact ((Below.refl _ _).alloc (Nat.le_refl _) _).alloc (by simp) _

/-- The sum that AllInput reckons. -/
def tot (a c0 c1 c2 i h : Int) : Int := wrap64 (a + i + h + c0 + c1 + c2)

theorem tot_eq (a c0 c1 c2 i h : Int) : wrap64 (wrap64 (wrap64 (wrap64 (wrap64 (a + i) + h) + c0) + c1) + c2) = tot a c0 c1 c2 i h := by
  unfold tot
  simp only [wrap64]
  omega

theorem all_any (a o c0 c1 c2 i q h : Int) (w : World) :
    Calls Try.prog 6 #[tk a o c0 c1 c2 i q h] w fun e w' => e = .returned (.int .i64 (tot a c0 c1 c2 i h)) ∧ w' = w.alloc (.cells #[.int .i64 a, .int .i64 o, .int .i64 c0, .int .i64 c1, .int .i64 c2, .int .i64 i, .int .i64 q, .int .i64 h] 24) := by
  go_enter Try.func6, Try.ntmps6
  go_wp2
  refine wp_loop_rounds 4 ?_
  rw [rounds_succ]
  go_wp2
  rw [rounds_succ]
  go_wp2
  rw [rounds_succ]
  go_wp2
  rw [rounds_succ]
  go_wp2
  go_ret
  refine ⟨?_, rfl⟩
  rw [← tot_eq]
  rfl

/-! b1Add, at each kind. -/
theorem add0 (a o c0 c1 c2 i q h v : Int) (w : World) :
    Calls Try.prog 7 #[tk a o c0 c1 c2 i q h, .int .i64 0, .int .i64 v] w fun e w' => e = .returned (tk (wrap64 (a + v)) o c0 c1 c2 i q h) ∧ Below w.heap.size w w' := by
  go_enter Try.func7, Try.ntmps7
  go_wp2
  refine bodyPost_ret (v := tk (wrap64 (a + v)) o c0 c1 c2 i q h) (by simp [results, Try.results7, go_sem]) rfl ⟨rfl, ?_⟩
  exact ((Below.refl _ _).alloc (Nat.le_refl _) _).alloc (by simp) _

theorem add1 (a o c0 c1 c2 i q h v : Int) (w : World) :
    Calls Try.prog 7 #[tk a o c0 c1 c2 i q h, .int .i64 1, .int .i64 v] w fun e w' => e = .returned (tk a o (wrap64 (c0 + v)) c1 c2 i q h) ∧ Below w.heap.size w w' := by
  go_enter Try.func7, Try.ntmps7
  go_wp2
  refine bodyPost_ret (v := tk a o (wrap64 (c0 + v)) c1 c2 i q h) (by simp [results, Try.results7, go_sem]) rfl ⟨rfl, ?_⟩
  exact ((Below.refl _ _).alloc (Nat.le_refl _) _).alloc (by simp) _

theorem add2 (a o c0 c1 c2 i q h v : Int) (w : World) :
    Calls Try.prog 7 #[tk a o c0 c1 c2 i q h, .int .i64 2, .int .i64 v] w fun e w' => e = .returned (tk a o c0 (wrap64 (c1 + v)) c2 i q h) ∧ Below w.heap.size w w' := by
  go_enter Try.func7, Try.ntmps7
  go_wp2
  refine bodyPost_ret (v := tk a o c0 (wrap64 (c1 + v)) c2 i q h) (by simp [results, Try.results7, go_sem]) rfl ⟨rfl, ?_⟩
  exact ((Below.refl _ _).alloc (Nat.le_refl _) _).alloc (by simp) _

theorem add3 (a o c0 c1 c2 i q h v : Int) (w : World) :
    Calls Try.prog 7 #[tk a o c0 c1 c2 i q h, .int .i64 3, .int .i64 v] w fun e w' => e = .returned (tk a o c0 c1 (wrap64 (c2 + v)) i q h) ∧ Below w.heap.size w w' := by
  go_enter Try.func7, Try.ntmps7
  go_wp2
  refine bodyPost_ret (v := tk a o c0 c1 (wrap64 (c2 + v)) i q h) (by simp [results, Try.results7, go_sem]) rfl ⟨rfl, ?_⟩
  exact ((Below.refl _ _).alloc (Nat.le_refl _) _).alloc (by simp) _

theorem add4 (a o c0 c1 c2 i q h v : Int) (w : World) :
    Calls Try.prog 7 #[tk a o c0 c1 c2 i q h, .int .i64 4, .int .i64 v] w fun e w' => e = .returned (tk a o c0 c1 c2 (wrap64 (i + v)) q h) ∧ Below w.heap.size w w' := by
  go_enter Try.func7, Try.ntmps7
  go_wp2
  refine bodyPost_ret (v := tk a o c0 c1 c2 (wrap64 (i + v)) q h) (by simp [results, Try.results7, go_sem]) rfl ⟨rfl, ?_⟩
  exact ((Below.refl _ _).alloc (Nat.le_refl _) _).alloc (by simp) _

theorem add5 (a o c0 c1 c2 i q h v : Int) (w : World) :
    Calls Try.prog 7 #[tk a o c0 c1 c2 i q h, .int .i64 5, .int .i64 v] w fun e w' => e = .returned (tk a o c0 c1 c2 i q (wrap64 (h + v))) ∧ Below w.heap.size w w' := by
  go_enter Try.func7, Try.ntmps7
  go_wp2
  refine bodyPost_ret (v := tk a o c0 c1 c2 i q (wrap64 (h + v))) (by simp [results, Try.results7, go_sem]) rfl ⟨rfl, ?_⟩
  exact ((Below.refl _ _).alloc (Nat.le_refl _) _).alloc (by simp) _

theorem add6 (a o c0 c1 c2 i q h v : Int) (w : World) :
    Calls Try.prog 7 #[tk a o c0 c1 c2 i q h, .int .i64 6, .int .i64 v] w fun e w' => e = .returned (tk a (wrap64 (o + v)) c0 c1 c2 i q h) ∧ Below w.heap.size w w' := by
  go_enter Try.func7, Try.ntmps7
  go_wp2
  refine bodyPost_ret (v := tk a (wrap64 (o + v)) c0 c1 c2 i q h) (by simp [results, Try.results7, go_sem]) rfl ⟨rfl, ?_⟩
  exact ((Below.refl _ _).alloc (Nat.le_refl _) _).alloc (by simp) _

theorem add7 (a o c0 c1 c2 i q h v : Int) (w : World) :
    Calls Try.prog 7 #[tk a o c0 c1 c2 i q h, .int .i64 7, .int .i64 v] w fun e w' => e = .returned (tk a o c0 c1 c2 i (wrap64 (q + v)) h) ∧ Below w.heap.size w w' := by
  go_enter Try.func7, Try.ntmps7
  go_wp2
  refine bodyPost_ret (v := tk a o c0 c1 c2 i (wrap64 (q + v)) h) (by simp [results, Try.results7, go_sem]) rfl ⟨rfl, ?_⟩
  exact ((Below.refl _ _).alloc (Nat.le_refl _) _).alloc (by simp) _

/-! What an added number does to the sum. -/
theorem tot0 (a c0 c1 c2 i h v : Int) : tot (wrap64 (a + v)) c0 c1 c2 i h = wrap64 (tot a c0 c1 c2 i h + v) := by
  unfold tot
  simp only [wrap64]
  omega
theorem tot1 (a c0 c1 c2 i h v : Int) : tot a (wrap64 (c0 + v)) c1 c2 i h = wrap64 (tot a c0 c1 c2 i h + v) := by
  unfold tot
  simp only [wrap64]
  omega
theorem tot2 (a c0 c1 c2 i h v : Int) : tot a c0 (wrap64 (c1 + v)) c2 i h = wrap64 (tot a c0 c1 c2 i h + v) := by
  unfold tot
  simp only [wrap64]
  omega
theorem tot3 (a c0 c1 c2 i h v : Int) : tot a c0 c1 (wrap64 (c2 + v)) i h = wrap64 (tot a c0 c1 c2 i h + v) := by
  unfold tot
  simp only [wrap64]
  omega
theorem tot4 (a c0 c1 c2 i h v : Int) : tot a c0 c1 c2 (wrap64 (i + v)) h = wrap64 (tot a c0 c1 c2 i h + v) := by
  unfold tot
  simp only [wrap64]
  omega
theorem tot5 (a c0 c1 c2 i h v : Int) : tot a c0 c1 c2 i (wrap64 (h + v)) = wrap64 (tot a c0 c1 c2 i h + v) := by
  unfold tot
  simp only [wrap64]
  omega

end Go.Proofs.Qxb6632452a
