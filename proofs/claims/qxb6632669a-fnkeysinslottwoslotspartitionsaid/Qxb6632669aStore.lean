/-
  SEAT b6632669a: a Store is built: ZZnewStoreOneSlot, ZZnewStoreTwoSlots.
-/
import Derived.Test.Qxb6632669aRows
import Derived.Test.Qxb6632669aZero
import Derived.WalkKit
import Derived.Lib.Hide
namespace Go.Proofs.Qxb6632669a
open Go Go.RowKit

theorem info48 : Try.prog.info? 48 = some Try.t48 := by kernel_rfl

theorem zero48 (Z : List Value) (hz : Try.t48.zero = some (.agg Z.toArray)) (w : World) : (zeroValue 48).run Try.prog w = .ok (.agg Z.toArray) w := by
  simp [zeroValue, typeInfo, info48, hz]

/-- BLOCK b IS A STORE of the cells C: the lock free, in its array at place j the map 'sets j'. -/
structure IsStore (w : World) (b : Nat) (C : List Value) (sets : Nat → Value) : Prop where
  blk : w.heap[b]? = some (.cells C.toArray 48 (0, 0))
  c0 : C[0]? = some (.int .i32 0)
  c2 : C[2]? = some (.int .u32 0)
  c3 : C[3]? = some (.int .u32 0)
  c4 : C[4]? = some (.int .i32 0)
  at_ : ∀ j, j < 16384 → C[7 + j]? = some (sets j)

theorem IsStore.lt {w : World} {b : Nat} {C : List Value} {sets : Nat → Value} (h : IsStore w b C sets) : b < w.heap.size := (Array.getElem?_eq_some_iff.1 h.blk).1
theorem IsStore.on {w w' : World} {b N : Nat} {C : List Value} {sets : Nat → Value} (h : IsStore w b C sets) (hb : Below N w w') (hN : b < N) : IsStore w' b C sets :=
  ⟨(hb.block b hN).trans h.blk, h.c0, h.c2, h.c3, h.c4, h.at_⟩
theorem IsStore.cell {w : World} {b : Nat} {C : List Value} {sets : Nat → Value} (h : IsStore w b C sets) (j : Nat) : w.cell? ⟨b, j, none⟩ = C[j]? := by
  rw [cell_of_row w b j C.toArray 48 (0, 0) h.blk]; simp

/-- A new block of such cells is a Store. -/
theorem isStore_new (w : World) (C : List Value) (sets : Nat → Value) (h0 : C[0]? = some (.int .i32 0)) (h2 : C[2]? = some (.int .u32 0)) (h3 : C[3]? = some (.int .u32 0)) (h4 : C[4]? = some (.int .i32 0))
    (hs : ∀ j, j < 16384 → C[7 + j]? = some (sets j)) : IsStore (w.alloc (.cells C.toArray 48)) w.heap.size C sets :=
  ⟨heap_alloc_new w _, h0, h2, h3, h4, hs⟩

set_option maxRecDepth 100000 in
theorem new1_any (d sb k : Nat) (hk : k < 16384) (w : World) :
    Calls Try.prog 6 #[.map (some d), .int .i64 k, .map (some sb)] w fun e w' => e = .returned (.pointer (some ⟨w.heap.size, 0, none⟩)) ∧ (∃ C, IsStore w' w.heap.size C (fun j => if j = k then .map (some sb) else .map none)) ∧ Below w.heap.size w w' ∧ w'.heap.size = w.heap.size + 1 := by
  obtain ⟨Z, hz, hl, z0, z2, z3, z4, zn⟩ := zero_ex
  have hb := zero48 Z hz
  clear hz
  have hk1 : 7 + k < 16391 := by omega
  have HN := Lib.hid zn
  have H0 := Lib.hid z0
  have H2 := Lib.hid z2
  have H3 := Lib.hid z3
  have H4 := Lib.hid z4
  clear zn z0 z2 z3 z4
  go_enter Try.func6, Try.ntmps6
  go_wp2
  go_ret
  refine ⟨rfl, ?_, ?_, ?_⟩
  · refine ⟨_, isStore_new w _ _ ?_ ?_ ?_ ?_ ?_⟩
    · rw [List.getElem?_set_ne (by omega), List.getElem?_set_ne (by omega)]; exact H0.out
    · rw [List.getElem?_set_ne (by omega), List.getElem?_set_ne (by omega)]; exact H2.out
    · rw [List.getElem?_set_ne (by omega), List.getElem?_set_ne (by omega)]; exact H3.out
    · rw [List.getElem?_set_ne (by omega), List.getElem?_set_ne (by omega)]; exact H4.out
    · intro j hj
      by_cases e : j = k
      · subst e
        rw [if_pos rfl, List.getElem?_set_self (by rw [List.length_set]; omega)]
      · rw [if_neg e, List.getElem?_set_ne (by omega), List.getElem?_set_ne (by omega)]
        exact HN.out (7 + j) (by omega) (by omega)
  · exact (Below.refl _ _).alloc (Nat.le_refl _) _
  · simp

set_option maxRecDepth 100000 in
theorem new2_any (d sb tb k l : Nat) (hk : k < 16384) (hl' : l < 16384) (hkl : k ≠ l) (w : World) :
    Calls Try.prog 9 #[.map (some d), .int .i64 k, .map (some sb), .int .i64 l, .map (some tb)] w fun e w' => e = .returned (.pointer (some ⟨w.heap.size, 0, none⟩)) ∧ (∃ C, IsStore w' w.heap.size C (fun j => if j = k then .map (some sb) else if j = l then .map (some tb) else .map none)) ∧ Below w.heap.size w w' ∧ w'.heap.size = w.heap.size + 1 := by
  obtain ⟨Z, hz, hl, z0, z2, z3, z4, zn⟩ := zero_ex
  have hb := zero48 Z hz
  clear hz
  have hk1 : 7 + k < 16391 := by omega
  have hk2 : 7 + l < 16391 := by omega
  have HN := Lib.hid zn
  have H0 := Lib.hid z0
  have H2 := Lib.hid z2
  have H3 := Lib.hid z3
  have H4 := Lib.hid z4
  clear zn z0 z2 z3 z4
  go_enter Try.func9, Try.ntmps9
  go_wp2
  go_ret
  refine ⟨rfl, ?_, ?_, ?_⟩
  · refine ⟨_, isStore_new w _ _ ?_ ?_ ?_ ?_ ?_⟩
    · rw [List.getElem?_set_ne (by omega), List.getElem?_set_ne (by omega), List.getElem?_set_ne (by omega)]; exact H0.out
    · rw [List.getElem?_set_ne (by omega), List.getElem?_set_ne (by omega), List.getElem?_set_ne (by omega)]; exact H2.out
    · rw [List.getElem?_set_ne (by omega), List.getElem?_set_ne (by omega), List.getElem?_set_ne (by omega)]; exact H3.out
    · rw [List.getElem?_set_ne (by omega), List.getElem?_set_ne (by omega), List.getElem?_set_ne (by omega)]; exact H4.out
    · intro j hj
      by_cases e : j = k
      · subst e
        rw [if_pos rfl, List.getElem?_set_ne (by omega), List.getElem?_set_self (by rw [List.length_set]; omega)]
      · rw [if_neg e]
        by_cases e2 : j = l
        · subst e2
          rw [if_pos rfl, List.getElem?_set_self (by rw [List.length_set, List.length_set]; omega)]
        · rw [if_neg e2, List.getElem?_set_ne (by omega), List.getElem?_set_ne (by omega), List.getElem?_set_ne (by omega)]
          exact HN.out (7 + j) (by omega) (by omega)
  · exact (Below.refl _ _).alloc (Nat.le_refl _) _
  · simp

end Go.Proofs.Qxb6632669a
