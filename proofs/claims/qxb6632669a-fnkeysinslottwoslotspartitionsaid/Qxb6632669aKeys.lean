/-
  SEAT b6632669a: (*Store).KeysInSlot by its contract.
-/
import Derived.Test.Qxb6632669aStore
import Derived.Test.Qxb6632669aLocks
import Derived.Conc.RwLone
import Derived.Maps.RangeWalk
import Derived.Maps.OwnSet
import Derived.Sort.KeysCollected
import Derived.Laws.IdiomRangeMap
import Derived.Laws.OwnMore
import Derived.Outline
namespace Go.Proofs.Qxb6632669a
open Go Go.RowKit Go.Maps Go.RwLone
open Go.Proofs (encStr)

theorem info9 : (Try.prog.info? 9).map (fun i => (i.zero, i.size, i.bytes)) = some (some (.string ⟨#[]⟩), 1, 16) := by kernel_rfl
theorem law9 : Keyed Try.prog 9 := string_keyed Try.underlying9

theorem row_ne_iter {w : World} {B : Nat} {v : Value} {n0 : Nat} {xs : List Value} {H : Type} {P : Program} {k : TypeId} {R : Value → Option (DataW H × List MemPlace)} {b r n : Nat} {D : DataW H} {left : Lit → Bool} {cnt : Nat}
    (hrow : w.ownsRow B 9 1 v n0 xs) (hrg : w.ranges P k R b r n D left cnt) : some r ≠ v.ownBlock := by
  obtain ⟨es, clock, since, seen, c0, _, _, _, _, hr, _⟩ := hrg
  intro e
  rcases hrow.2 with ⟨rfl, _⟩ | ⟨g, cap, cur, rfl, _, hg, _⟩
  · simp [Value.ownBlock] at e
  · simp [Value.ownBlock] at e
    subst e
    rw [hg] at hr
    cases hr
theorem row_ne_low {w : World} {B : Nat} {v : Value} {n0 : Nat} {xs : List Value} (hrow : w.ownsRow B 9 1 v n0 xs) {b : Nat} (hb : b < B) : some b ≠ v.ownBlock := by
  intro e
  have := (hrow.lt b e.symm).1
  omega
theorem cell_one_new (w : World) (x : Value) (t : TypeId) : ∀ j u, [x][j]? = some u → (w.alloc (.cells #[x] t)).cell? ((⟨w.heap.size, 0, none⟩ : Addr).add j) = some u := by
  intro j u hj
  match j, hj with
  | 0, hj => simp at hj; subst hj; simp [Addr.add]

/-- Behind RLock: the readers' count is one. -/
def lockedC (C : List Value) : List Value := C.set 4 (.int .i32 (wrap32 (0 + 1)))
theorem lockedC_at {C : List Value} {j : Nat} (h : j ≠ 4) : (lockedC C)[j]? = C[j]? := List.getElem?_set_ne (by omega)
theorem lockedC_4 {C : List Value} (h : C[4]? = some (.int .i32 0)) : (lockedC C)[4]? = some (.int .i32 (wrap32 (0 + 1))) := List.getElem?_set_self (List.getElem?_eq_some_iff.1 h).1
theorem unlockedC {C : List Value} (h : C[4]? = some (.int .i32 0)) : (lockedC C).set 4 (.int .i32 (wrap32 (wrap32 (0 + 1) + -1))) = C := by
  have e : wrap32 (wrap32 (0 + 1) + -1) = 0 := by simp only [wrap32]; omega
  rw [e]
  unfold lockedC
  rw [List.set_set]
  apply List.ext_getElem?
  intro i
  by_cases hi : i = 4
  · subst hi; rw [List.getElem?_set_self (List.getElem?_eq_some_iff.1 h).1, h]
  · rw [List.getElem?_set_ne (by omega)]

theorem wrap1 : ¬ wrap32 (0 + 1) < 0 := by simp only [wrap32]; omega
theorem wrap0 : ¬ wrap32 (wrap32 (0 + 1) + -1) < 0 := by simp only [wrap32]; omega

/-- THE WORLD BEHIND RLock. -/
structure Locked (w W : World) (b : Nat) (C : List Value) : Prop where
  blk : W.heap[b]? = some (.cells (lockedC C).toArray 48 (0, 0))
  size : W.heap.size = w.heap.size
  other : ∀ j, j ≠ b → W.heap[j]? = w.heap[j]?
  os : W.os = w.os
  tape : W.tape = w.tape
  output : W.output = w.output

theorem locked_mk {w : World} {b : Nat} {C : List Value} {sets : Nat → Value} (h : IsStore w b C sets) : Locked w (w.setCell ⟨b, 4, none⟩ (.int .i32 (wrap32 (0 + 1)))) b C := by
  refine ⟨?_, by simp [World.setCell], fun j hj => Below.heap_setCell w ⟨b, 4, none⟩ _ j hj, rfl, rfl, rfl⟩
  rw [heap_setCell_same w b 4 C.toArray 48 _ h.blk]
  simp [lockedC]

theorem Locked.cell {w W : World} {b : Nat} {C : List Value} (h : Locked w W b C) (j : Nat) : W.cell? ⟨b, j, none⟩ = (lockedC C)[j]? := by
  rw [cell_of_row W b j _ 48 (0, 0) h.blk]; simp

/-- .. AND BEHIND RUnlock, whatever new blocks were made between. -/
theorem unlocked {w W V : World} {b : Nat} {C : List Value} {sets : Nat → Value} (hS : IsStore w b C sets) (h : Locked w W b C) (hb : Below W.heap.size W V) : Below w.heap.size w (V.setCell ⟨b, 4, none⟩ (.int .i32 (wrap32 (wrap32 (0 + 1) + -1)))) := by
  have hlt := hS.lt
  have hVb : V.heap[b]? = some (.cells (lockedC C).toArray 48 (0, 0)) := (hb.block b (by rw [h.size]; exact hlt)).trans h.blk
  refine ⟨hb.os.trans h.os, hb.tape.trans h.tape, hb.output.trans h.output, by have := hb.size; rw [h.size] at this; simpa [World.setCell] using this, fun j hj => ?_⟩
  by_cases e : j = b
  · subst e
    rw [heap_setCell_same V j 4 _ 48 _ hVb, hS.blk]
    congr 2
    rw [List.setIfInBounds_toArray, unlockedC hS.c4]
  · rw [Below.heap_setCell V ⟨b, 4, none⟩ _ j e, hb.block j (by rw [h.size]; exact hj), h.other j e]

theorem runl_locked {H : Type} {w W : World} {b sb n : Nat} {C : List Value} {D : DataW H} {R : Value → Option (DataW H × List MemPlace)} (h : Locked w W b C) (hown : w.ownsMap Try.prog 9 R sb n D) (hne : sb ≠ b) : W.ownsMap Try.prog 9 R sb n D := by
  obtain ⟨es, clock, hb, r⟩ := hown
  exact ⟨es, clock, (h.other sb hne).trans hb, r⟩

end Go.Proofs.Qxb6632669a
