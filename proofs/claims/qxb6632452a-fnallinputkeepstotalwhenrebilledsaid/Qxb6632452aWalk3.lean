/-
  SEAT b6632452a: b1Tokens and b1Add with their worlds written out; a Tokens as one letter.
-/
import Derived.Test.Qxb6632452aWalk1
namespace Go.Proofs.Qxb6632452a
open Go Go.RowKit

/-- A Tokens. -/
structure Tok where
  a : Int
  o : Int
  c0 : Int
  c1 : Int
  c2 : Int
  i : Int
  q : Int
  h : Int

abbrev Tok.val (T : Tok) : Value := tk T.a T.o T.c0 T.c1 T.c2 T.i T.q T.h
/-- Its cells, as a block. -/
abbrev Tok.obj (T : Tok) : Obj := .cells #[.int .i64 T.a, .int .i64 T.o, .int .i64 T.c0, .int .i64 T.c1, .int .i64 T.c2, .int .i64 T.i, .int .i64 T.q, .int .i64 T.h] 24
def Tok.sum (T : Tok) : Int := tot T.a T.c0 T.c1 T.c2 T.i T.h

/-- b1Add at the six kinds of the request. -/
def addK (k : Nat) (T : Tok) (v : Int) : Tok := match k with
  | 0 => ⟨wrap64 (T.a + v), T.o, T.c0, T.c1, T.c2, T.i, T.q, T.h⟩
  | 1 => ⟨T.a, T.o, wrap64 (T.c0 + v), T.c1, T.c2, T.i, T.q, T.h⟩
  | 2 => ⟨T.a, T.o, T.c0, wrap64 (T.c1 + v), T.c2, T.i, T.q, T.h⟩
  | 3 => ⟨T.a, T.o, T.c0, T.c1, wrap64 (T.c2 + v), T.i, T.q, T.h⟩
  | 4 => ⟨T.a, T.o, T.c0, T.c1, T.c2, wrap64 (T.i + v), T.q, T.h⟩
  | _ => ⟨T.a, T.o, T.c0, T.c1, T.c2, T.i, T.q, wrap64 (T.h + v)⟩

theorem tokens_eq (T : Tok) (w : World) :
    Calls Try.prog 5 #[.int .i64 T.a, .int .i64 T.o, .int .i64 T.c0, .int .i64 T.c1, .int .i64 T.c2, .int .i64 T.i, .int .i64 T.q, .int .i64 T.h] w fun e w' => e = .returned T.val ∧ w' = (w.alloc T.obj).alloc T.obj := by
  go_enter Try.func5, Try.ntmps5
  go_wp2
  exact bodyPost_ret (v := T.val) (by simp [results, Try.results5, go_sem]) rfl ⟨rfl, rfl⟩

theorem all_eq (T : Tok) (w : World) : Calls Try.prog 6 #[T.val] w fun e w' => e = .returned (.int .i64 T.sum) ∧ w' = w.alloc T.obj := all_any T.a T.o T.c0 T.c1 T.c2 T.i T.q T.h w

theorem add_eq (k : Nat) (hk : k ≤ 5) (T : Tok) (v : Int) (w : World) :
    Calls Try.prog 7 #[T.val, .int .i64 k, .int .i64 v] w fun e w' => e = .returned (addK k T v).val ∧ w' = (w.alloc (addK k T v).obj).alloc (addK k T v).obj := by
  rcases (show k = 0 ∨ k = 1 ∨ k = 2 ∨ k = 3 ∨ k = 4 ∨ k = 5 from by omega) with rfl | rfl | rfl | rfl | rfl | rfl
  · go_enter Try.func7, Try.ntmps7
    go_wp2
    exact bodyPost_ret (v := (addK 0 T v).val) (by simp [results, Try.results7, go_sem, addK]) rfl ⟨rfl, rfl⟩
  · go_enter Try.func7, Try.ntmps7
    go_wp2
    exact bodyPost_ret (v := (addK 1 T v).val) (by simp [results, Try.results7, go_sem, addK]) rfl ⟨rfl, rfl⟩
  · go_enter Try.func7, Try.ntmps7
    go_wp2
    exact bodyPost_ret (v := (addK 2 T v).val) (by simp [results, Try.results7, go_sem, addK]) rfl ⟨rfl, rfl⟩
  · go_enter Try.func7, Try.ntmps7
    go_wp2
    exact bodyPost_ret (v := (addK 3 T v).val) (by simp [results, Try.results7, go_sem, addK]) rfl ⟨rfl, rfl⟩
  · go_enter Try.func7, Try.ntmps7
    go_wp2
    exact bodyPost_ret (v := (addK 4 T v).val) (by simp [results, Try.results7, go_sem, addK]) rfl ⟨rfl, rfl⟩
  · go_enter Try.func7, Try.ntmps7
    go_wp2
    exact bodyPost_ret (v := (addK 5 T v).val) (by simp [results, Try.results7, go_sem, addK]) rfl ⟨rfl, rfl⟩

theorem sum_add (k : Nat) (hk : k ≤ 5) (T : Tok) (v : Int) : (addK k T v).sum = wrap64 (T.sum + v) := by
  rcases (show k = 0 ∨ k = 1 ∨ k = 2 ∨ k = 3 ∨ k = 4 ∨ k = 5 from by omega) with rfl | rfl | rfl | rfl | rfl | rfl
  · exact tot0 T.a T.c0 T.c1 T.c2 T.i T.h v
  · exact tot1 T.a T.c0 T.c1 T.c2 T.i T.h v
  · exact tot2 T.a T.c0 T.c1 T.c2 T.i T.h v
  · exact tot3 T.a T.c0 T.c1 T.c2 T.i T.h v
  · exact tot4 T.a T.c0 T.c1 T.c2 T.i T.h v
  · exact tot5 T.a T.c0 T.c1 T.c2 T.i T.h v

theorem sum_moved (f t : Nat) (hf : f ≤ 5) (ht : t ≤ 5) (T : Tok) (m : Int) : (addK t (addK f T (wrap64 (-m))) m).sum = T.sum := by
  rw [sum_add t ht, sum_add f hf]
  unfold Tok.sum tot
  simp only [wrap64]
  omega

theorem sum_only (t : Nat) (ht : t ≤ 5) (o q m : Int) (h0 : -9223372036854775808 ≤ m) (h1 : m ≤ 9223372036854775807) : (addK t ⟨0, o, 0, 0, 0, 0, q, 0⟩ m).sum = m := by
  rw [sum_add t ht]
  unfold Tok.sum tot
  simp only [wrap64]
  omega

end Go.Proofs.Qxb6632452a
