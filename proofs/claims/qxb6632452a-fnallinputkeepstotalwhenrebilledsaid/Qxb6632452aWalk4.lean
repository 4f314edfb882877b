/-
  SEAT b6632452a: FnAllInputKeepsTotalWhenRebilled.
-/
import Derived.Test.Qxb6632452aWalk3
import Derived.Deep.RegionWith
namespace Go.Proofs.Qxb6632452a
open Go Go.RowKit

/-- A kind out of range: true at once. -/
theorem rebilled_out (T : Tok) (m : Int) (f t : Nat) (h : 5 < f ∨ (f ≤ 5 ∧ 5 < t)) (w : World) :
    Calls Try.prog 4 #[.int .i64 T.a, .int .i64 T.o, .int .i64 T.c0, .int .i64 T.c1, .int .i64 T.c2, .int .i64 T.i, .int .i64 T.q, .int .i64 T.h, .int .i64 m, .int .u8 f, .int .u8 t] w fun e w' => e = .returned (.bool true) ∧ Below w.heap.size w w' := by
  rcases h with h | ⟨h1, h2⟩
  all_goals
    go_enter Try.func4, Try.ntmps4
    go_wp2
    go_ret
    exact ⟨rfl, Below.refl _ _⟩

theorem size_le (w x : World) (o : Obj) (h : w.heap.size ≤ x.heap.size) : w.heap.size ≤ (x.alloc o).heap.size := by simp; omega

theorem below16 (w : World) (o1 o2 o3 o4 o5 o6 o7 o8 o9 o10 o11 o12 o13 o14 o15 o16 : Obj) : Below w.heap.size w ((((((((((((((((w.alloc o1).alloc o2).alloc o3).alloc o4).alloc o5).alloc o6).alloc o7).alloc o8).alloc o9).alloc o10).alloc o11).alloc o12).alloc o13).alloc o14).alloc o15).alloc o16).drew := by
  have h0 : Below w.heap.size w w ∧ w.heap.size ≤ w.heap.size := ⟨Below.refl _ _, Nat.le_refl _⟩
  have st : ∀ (x : World) (o : Obj), Below w.heap.size w x ∧ w.heap.size ≤ x.heap.size → Below w.heap.size w (x.alloc o) ∧ w.heap.size ≤ (x.alloc o).heap.size := fun x o h => ⟨h.1.alloc h.2 o, size_le w x o h.2⟩
  exact (st _ _ (st _ _ (st _ _ (st _ _ (st _ _ (st _ _ (st _ _ (st _ _ (st _ _ (st _ _ (st _ _ (st _ _ (st _ _ (st _ _ (st _ _ (st _ _ (h0))))))))))))))))).1.drew

set_option maxRecDepth 100000 in
set_option maxHeartbeats 2000000 in
theorem rebilled_in (T : Tok) (m : Int) (h0 : -9223372036854775808 ≤ m) (h1 : m ≤ 9223372036854775807) (f t : Nat) (hf : f ≤ 5) (ht : t ≤ 5) (w : World) :
    Calls Try.prog 4 #[.int .i64 T.a, .int .i64 T.o, .int .i64 T.c0, .int .i64 T.c1, .int .i64 T.c2, .int .i64 T.i, .int .i64 T.q, .int .i64 T.h, .int .i64 m, .int .u8 f, .int .u8 t] w fun e w' => e = .returned (.bool true) ∧ Below w.heap.size w w' := by
  go_enter Try.func4, Try.ntmps4
  go_wp2_with fail
  refine (tokens_eq T _).mono ?_
  rintro e w1 ⟨rfl, rfl⟩
  go_wp2_with fail
  refine (add_eq f hf T (wrap64 (-m)) _).mono ?_
  rintro e w2 ⟨he, hw⟩
  obtain ⟨X, hX⟩ : ∃ X, X = addK f T (wrap64 (-m)) := ⟨_, rfl⟩
  rw [← hX] at he hw
  have HX : Hid (X = addK f T (wrap64 (-m))) := hX
  clear hX
  subst he hw
  go_wp2_with fail
  refine (add_eq t ht X m _).mono ?_
  rintro e w3 ⟨he, hw⟩
  obtain ⟨M, hM⟩ : ∃ M, M = addK t X m := ⟨_, rfl⟩
  rw [← hM] at he hw
  have HM : Hid (M = addK t X m) := hM
  clear hM
  subst he hw
  go_wp2_with fail
  refine (tokens_eq ⟨0, T.o, 0, 0, 0, 0, T.q, 0⟩ _).mono ?_
  rintro e w4 ⟨rfl, rfl⟩
  go_wp2_with fail
  refine (add_eq t ht ⟨0, T.o, 0, 0, 0, 0, T.q, 0⟩ m _).mono ?_
  rintro e w5 ⟨he, hw⟩
  obtain ⟨Y, hY⟩ : ∃ Y, Y = addK t ⟨0, T.o, 0, 0, 0, 0, T.q, 0⟩ m := ⟨_, rfl⟩
  rw [← hY] at he hw
  have HY : Hid (Y = addK t ⟨0, T.o, 0, 0, 0, 0, T.q, 0⟩ m) := hY
  clear hY
  subst he hw
  have hq1 : (M.sum == T.sum) = true := by rw [HM.out, HX.out, sum_moved f t hf ht]; simp
  have hq2 : (Y.sum == m) = true := by rw [HY.out, sum_only t ht _ _ m h0 h1]; simp
  go_wp2_with fail
  go_region_with (first
    | (go_at_call_of 6 (Value.int IntKind.i64 M.a); refine (all_eq M _).mono ?_; rintro e w' ⟨rfl, rfl⟩)
    | (go_at_call_of 6 (Value.int IntKind.i64 T.a); refine (all_eq T _).mono ?_; rintro e w' ⟨rfl, rfl⟩)
    | (go_at_call_of 6 (Value.int IntKind.i64 Y.a); refine (all_eq Y _).mono ?_; rintro e w' ⟨rfl, rfl⟩))
  all_goals
    go_wp2
    go_ret
    exact ⟨rfl, below16 _ _ _ _ _ _ _ _ _ _ _ _ _ _ _ _ _⟩

theorem rebilled (T : Tok) (m : Int) (h0 : -9223372036854775808 ≤ m) (h1 : m ≤ 9223372036854775807) (f t : Nat) (w : World) :
    Calls Try.prog 4 #[.int .i64 T.a, .int .i64 T.o, .int .i64 T.c0, .int .i64 T.c1, .int .i64 T.c2, .int .i64 T.i, .int .i64 T.q, .int .i64 T.h, .int .i64 m, .int .u8 f, .int .u8 t] w fun e w' => e = .returned (.bool true) ∧ Below w.heap.size w w' := by
  rcases (show (5 < f ∨ (f ≤ 5 ∧ 5 < t)) ∨ (f ≤ 5 ∧ t ≤ 5) from by omega) with h | ⟨h2, h3⟩
  · exact rebilled_out T m f t h w
  · exact rebilled_in T m h0 h1 f t h2 h3 w
end Go.Proofs.Qxb6632452a
