/-
  SEAT b6632452a: FnAllInputRaisesByEachInputKind.
-/
import Derived.Test.Qxb6632452aWalk1
import Derived.Lib.Hide
namespace Go.Proofs.Qxb6632452a
open Go Go.RowKit

theorem keep {w wr w2 : World} {B : Nat} {X : Option Obj} (hb : Below w.heap.size w wr) (hlt : B < wr.heap.size) (hblk : wr.heap[B]? = X) (hb2 : Below wr.heap.size wr w2) (o1 o2 : Obj) :
    Below w.heap.size w ((w2.alloc o1).alloc o2) ∧ B < ((w2.alloc o1).alloc o2).heap.size ∧ ((w2.alloc o1).alloc o2).heap[B]? = X := by
  have h1 := hb.size
  have h2 := hb2.size
  refine ⟨((hb.trans (hb2.mono h1)).alloc (by omega) _).alloc (by simp; omega) _, by simp; omega, ?_⟩
  rw [Below.heap_alloc _ _ _ (by simp; omega), Below.heap_alloc _ _ _ (by omega), hb2.block _ hlt, hblk]

set_option maxRecDepth 100000 in
set_option maxHeartbeats 2000000 in
theorem raises (a o c0 c1 c2 i q h d : Int) (w : World) :
    Calls Try.prog 3 #[.int .i64 a, .int .i64 o, .int .i64 c0, .int .i64 c1, .int .i64 c2, .int .i64 i, .int .i64 q, .int .i64 h, .int .i64 d] w fun e w' => e = .returned (.bool true) ∧ Below w.heap.size w w' := by
  have e0 := tot0 a c0 c1 c2 i h d
  have e1 := tot1 a c0 c1 c2 i h d
  have e2 := tot2 a c0 c1 c2 i h d
  have e3 := tot3 a c0 c1 c2 i h d
  have e4 := tot4 a c0 c1 c2 i h d
  have e5 := tot5 a c0 c1 c2 i h d
  go_enter Try.func3, Try.ntmps3
  go_wp2_with (first | (go_at_call 5; refine (tokens_any a o c0 c1 c2 i q h _).mono ?_; rintro e w1 ⟨rfl, hb1⟩) | (go_at_call 6; refine (all_any a o c0 c1 c2 i q h _).mono ?_; rintro e w2 ⟨rfl, rfl⟩))
  have hs1 := hb1.size
  go_loopw [21] (fun k wr => ∃ n : Nat, n ≤ 8 ∧ k = .int .i64 n ∧ Below w.heap.size w wr ∧ w1.heap.size < wr.heap.size ∧ wr.heap[w1.heap.size]? = some (.cells #[.int .i64 a, .int .i64 o, .int .i64 c0, .int .i64 c1, .int .i64 c2, .int .i64 i, .int .i64 q, .int .i64 h] 24 (0, 0))) (fun k _ => 8 - (intOf k).toNat)
  case atStart =>
    refine ⟨0, by omega, rfl, (hb1.alloc hs1 _).alloc (by simp; omega) _, by simp; omega, ?_⟩
    rw [Below.heap_alloc _ _ _ (by simp), heap_alloc_new]
  case round =>
    obtain ⟨n, hn, rfl, hb, hlt, hblk⟩ := hrel
    have k0 : wr.cell? ⟨w1.heap.size, 0, none⟩ = some (.int .i64 a) := by rw [cell_of_row _ _ _ _ _ _ hblk]; rfl
    have k1 : wr.cell? ⟨w1.heap.size, 1, none⟩ = some (.int .i64 o) := by rw [cell_of_row _ _ _ _ _ _ hblk]; rfl
    have k2 : wr.cell? ⟨w1.heap.size, 2, none⟩ = some (.int .i64 c0) := by rw [cell_of_row _ _ _ _ _ _ hblk]; rfl
    have k3 : wr.cell? ⟨w1.heap.size, 3, none⟩ = some (.int .i64 c1) := by rw [cell_of_row _ _ _ _ _ _ hblk]; rfl
    have k4 : wr.cell? ⟨w1.heap.size, 4, none⟩ = some (.int .i64 c2) := by rw [cell_of_row _ _ _ _ _ _ hblk]; rfl
    have k5 : wr.cell? ⟨w1.heap.size, 5, none⟩ = some (.int .i64 i) := by rw [cell_of_row _ _ _ _ _ _ hblk]; rfl
    have k6 : wr.cell? ⟨w1.heap.size, 6, none⟩ = some (.int .i64 q) := by rw [cell_of_row _ _ _ _ _ _ hblk]; rfl
    have k7 : wr.cell? ⟨w1.heap.size, 7, none⟩ = some (.int .i64 h) := by rw [cell_of_row _ _ _ _ _ _ hblk]; rfl
    rcases (show n = 0 ∨ n = 1 ∨ n = 2 ∨ n = 3 ∨ n = 4 ∨ n = 5 ∨ n = 6 ∨ n = 7 ∨ n = 8 from by omega) with rfl | rfl | rfl | rfl | rfl | rfl | rfl | rfl | rfl
    · go_wp2_with (first | (go_at_call 7; refine (add0 a o c0 c1 c2 i q h d _).mono ?_; rintro e w2 ⟨rfl, hb2⟩) | (go_at_call 6; refine (all_any (wrap64 (a + d)) o c0 c1 c2 i q h _).mono ?_; rintro e w3 ⟨rfl, rfl⟩))
      have R := keep hb hlt hblk hb2
      go_roundw
      case rel => exact ⟨1, by omega, rfl, (R _ _).1, (R _ _).2.1, (R _ _).2.2⟩
      case measure => simp [intOf]
    · go_wp2_with (first | (go_at_call 7; refine (add1 a o c0 c1 c2 i q h d _).mono ?_; rintro e w2 ⟨rfl, hb2⟩) | (go_at_call 6; refine (all_any a o (wrap64 (c0 + d)) c1 c2 i q h _).mono ?_; rintro e w3 ⟨rfl, rfl⟩))
      have R := keep hb hlt hblk hb2
      go_roundw
      case rel => exact ⟨2, by omega, rfl, (R _ _).1, (R _ _).2.1, (R _ _).2.2⟩
      case measure => simp [intOf]
    · go_wp2_with (first | (go_at_call 7; refine (add2 a o c0 c1 c2 i q h d _).mono ?_; rintro e w2 ⟨rfl, hb2⟩) | (go_at_call 6; refine (all_any a o c0 (wrap64 (c1 + d)) c2 i q h _).mono ?_; rintro e w3 ⟨rfl, rfl⟩))
      have R := keep hb hlt hblk hb2
      go_roundw
      case rel => exact ⟨3, by omega, rfl, (R _ _).1, (R _ _).2.1, (R _ _).2.2⟩
      case measure => simp [intOf]
    · go_wp2_with (first | (go_at_call 7; refine (add3 a o c0 c1 c2 i q h d _).mono ?_; rintro e w2 ⟨rfl, hb2⟩) | (go_at_call 6; refine (all_any a o c0 c1 (wrap64 (c2 + d)) i q h _).mono ?_; rintro e w3 ⟨rfl, rfl⟩))
      have R := keep hb hlt hblk hb2
      go_roundw
      case rel => exact ⟨4, by omega, rfl, (R _ _).1, (R _ _).2.1, (R _ _).2.2⟩
      case measure => simp [intOf]
    · go_wp2_with (first | (go_at_call 7; refine (add4 a o c0 c1 c2 i q h d _).mono ?_; rintro e w2 ⟨rfl, hb2⟩) | (go_at_call 6; refine (all_any a o c0 c1 c2 (wrap64 (i + d)) q h _).mono ?_; rintro e w3 ⟨rfl, rfl⟩))
      have R := keep hb hlt hblk hb2
      go_roundw
      case rel => exact ⟨5, by omega, rfl, (R _ _).1, (R _ _).2.1, (R _ _).2.2⟩
      case measure => simp [intOf]
    · go_wp2_with (first | (go_at_call 7; refine (add5 a o c0 c1 c2 i q h d _).mono ?_; rintro e w2 ⟨rfl, hb2⟩) | (go_at_call 6; refine (all_any a o c0 c1 c2 i q (wrap64 (h + d)) _).mono ?_; rintro e w3 ⟨rfl, rfl⟩))
      have R := keep hb hlt hblk hb2
      go_roundw
      case rel => exact ⟨6, by omega, rfl, (R _ _).1, (R _ _).2.1, (R _ _).2.2⟩
      case measure => simp [intOf]
    · go_wp2_with (first | (go_at_call 7; refine (add6 a o c0 c1 c2 i q h d _).mono ?_; rintro e w2 ⟨rfl, hb2⟩) | (go_at_call 6; refine (all_any a (wrap64 (o + d)) c0 c1 c2 i q h _).mono ?_; rintro e w3 ⟨rfl, rfl⟩))
      have R := keep hb hlt hblk hb2
      go_roundw
      case rel => exact ⟨7, by omega, rfl, (R _ _).1, (R _ _).2.1, (R _ _).2.2⟩
      case measure => simp [intOf]
    · go_wp2_with (first | (go_at_call 7; refine (add7 a o c0 c1 c2 i q h d _).mono ?_; rintro e w2 ⟨rfl, hb2⟩) | (go_at_call 6; refine (all_any a o c0 c1 c2 i (wrap64 (q + d)) h _).mono ?_; rintro e w3 ⟨rfl, rfl⟩))
      have R := keep hb hlt hblk hb2
      go_roundw
      case rel => exact ⟨8, by omega, rfl, (R _ _).1, (R _ _).2.1, (R _ _).2.2⟩
      case measure => simp [intOf]
    · go_wp2
      go_ret
      exact ⟨rfl, hb⟩
end Go.Proofs.Qxb6632452a
