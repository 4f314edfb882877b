/-
  SEAT b6632546a: slices of int32: what a slice reads as ('Rd'), what a slice of the call's own holds ('Own'), 'copy'. Nothing of the dump.
-/
import Derived.Test.Qxb6632546aLists
import Derived.WalkKit
import Derived.WalkSpells
import Derived.WideShapes
import Derived.Laws.CopyOwn
namespace Go.Proofs.Qxb6632546a
open Go Go.RowKit

/-- WHAT THE WALK IS TOLD OF A SLICE OF INTEGERS THAT CAME IN: it is nil; or it leads to a row of 'cap' cells, the numbers 'zs'. -/
def IsRow (k : IntKind) (w : World) (a : Option Addr) (len cap : Nat) (zs : List Int) : Prop :=
  (a = none ∧ len = 0 ∧ cap = 0 ∧ zs = []) ∨
  ∃ x, a = some x ∧ len ≤ cap ∧ cap ≤ maxLen ∧ zs.length = cap ∧ (∀ i, i < zs.length → w.cell? (x.add i) = some (.int k (zs.getD i 0))) ∧ ∀ n ∈ zs, (Lit.int k n).wf = true

/-- A slice (nil, or wherever it lies) that reads as the list L. -/
structure Rd (w : World) (ao : Option Addr) (n cap : Nat) (L : List Int) : Prop where
  len : n = L.length
  nil : ao = none → n = 0 ∧ cap = 0
  le : n ≤ cap
  max : cap ≤ maxLen
  at_ : ∀ ad, ao = some ad → ∀ i, i < n → w.cell? (ad.add i) = some (.int .i32 (L.getD i 0))

theorem Rd.on {w w' : World} {ao : Option Addr} {n cap : Nat} {L : List Int} (h : Rd w ao n cap L) (hb : Below w.heap.size w w') : Rd w' ao n cap L :=
  ⟨h.len, h.nil, h.le, h.max, fun ad e i hi => (hb.cell (World.block_lt_of_cell? w _ (h.at_ ad e i hi))).trans (h.at_ ad e i hi)⟩

/-- Where there is an element: its block and place. -/
theorem Rd.place {w : World} {ao : Option Addr} {n cap : Nat} {L : List Int} (h : Rd w ao n cap L) (hn : 0 < n) : ∃ b off, ao = some ⟨b, off, none⟩ ∧ b < w.heap.size ∧ ∀ i, i < n → w.cell? ⟨b, off + i, none⟩ = some (.int .i32 (L.getD i 0)) := by
  cases ao with
  | none => have := (h.nil rfl).1; omega
  | some ad =>
    obtain ⟨b, off, spot⟩ := ad
    have h0 := h.at_ _ rfl 0 hn
    have hspot : spot = .none := by simpa [Addr.add] using World.cell?_spot h0
    subst hspot
    refine ⟨b, off, rfl, by have := World.block_lt_of_cell? w _ h0; simpa [Addr.add] using this, fun i hi => ?_⟩
    rw [← Go.WideShapes.add_plain]
    exact h.at_ _ rfl i hi

theorem Rd.of_row {w : World} {a : Option Addr} {len cap : Nat} {zs : List Int} (h : IsRow .i32 w a len cap zs) : Rd w a len cap (zs.take len) := by
  rcases h with ⟨rfl, rfl, rfl, rfl⟩ | ⟨x, rfl, hl, hm, hz, hc, _⟩
  · exact ⟨rfl, fun _ => ⟨rfl, rfl⟩, Nat.le_refl _, by unfold maxLen; omega, fun ad e => by cases e⟩
  · refine ⟨by simp; omega, fun e => (by cases e), hl, hm, fun ad e i hi => ?_⟩
    obtain rfl := Option.some.inj e
    rw [hc i (by omega)]
    simp only [List.getD, List.getElem?_take, if_pos hi]

/-- A slice of the call's own, in blocks from B on. -/
def Own (B : Nat) (w : World) (ao : Option Addr) (n cap : Nat) (L : List Int) : Prop := w.ownsRow B 21 1 (.slice ao n cap) n (L.map (Value.int .i32))

theorem Own.rd {B : Nat} {w : World} {ao : Option Addr} {n cap : Nat} {L : List Int} (h : Own B w ao n cap L) : Rd w ao n cap L := by
  have hl := h.1
  simp only [List.length_map, Nat.mul_one] at hl
  rcases h.2 with ⟨e, h0⟩ | ⟨g, cap', cur, e, hB, hg, hnc, hcm, hcs, ht⟩
  · simp only [Value.slice.injEq] at e
    obtain ⟨rfl, rfl, rfl⟩ := e
    exact ⟨hl.symm, fun _ => ⟨rfl, rfl⟩, Nat.le_refl _, by unfold maxLen; omega, fun ad e => by cases e⟩
  · simp only [Value.slice.injEq] at e
    obtain ⟨rfl, -, rfl⟩ := e
    refine ⟨hl.symm, fun e => (by cases e), hnc, hcm, fun ad e i hi => ?_⟩
    obtain rfl := Option.some.inj e
    exact h.cells (g := g) rfl i _ (by rw [List.getElem?_map, List.getD, List.getElem?_eq_getElem (by omega)]; rfl)

/-- Where there is an element, it lies at the head of a block of the call's own. -/
theorem Own.block {B : Nat} {w : World} {ao : Option Addr} {n cap : Nat} {L : List Int} (h : Own B w ao n cap L) (hn : 0 < n) : ∃ g, ao = some ⟨g, 0, none⟩ ∧ B ≤ g ∧ g < w.heap.size := by
  rcases h.2 with ⟨e, h0⟩ | ⟨g, cap', cur, e, hB, hg, _⟩
  · omega
  · simp only [Value.slice.injEq] at e
    obtain ⟨rfl, -, rfl⟩ := e
    exact ⟨g, rfl, hB, (Array.getElem?_eq_some_iff.1 hg).1⟩

theorem Own.on {B N : Nat} {w w' : World} {ao : Option Addr} {n cap : Nat} {L : List Int} (h : Own B w ao n cap L) (hb : Below N w w') (hN : ∀ g, ao = some ⟨g, 0, none⟩ → g < N) : Own B w' ao n cap L := by
  refine ⟨h.1, ?_⟩
  rcases h.2 with h0 | ⟨g, cap', cur, e, hB, hg, r⟩
  · exact .inl h0
  · simp only [Value.slice.injEq] at e
    obtain ⟨rfl, e2, rfl⟩ := e
    exact .inr ⟨g, cap, cur, rfl, hB, by rw [hb.block g (hN g rfl)]; exact hg, r⟩

theorem Own.lt {B : Nat} {w : World} {ao : Option Addr} {n cap : Nat} {L : List Int} (h : Own B w ao n cap L) : ∀ g, ao = some ⟨g, 0, none⟩ → B ≤ g ∧ g < w.heap.size := by
  intro g e
  subst e
  exact World.ownsRow.lt h g rfl

/-- 'ready[:0]'. -/
theorem Own.none {B : Nat} {w : World} {ao : Option Addr} {n cap : Nat} {L : List Int} (h : Own B w ao n cap L) : Own B w ao 0 cap [] := by
  refine ⟨by simp, ?_⟩
  rcases h.2 with ⟨e, h0⟩ | ⟨g, cap', cur, e, hB, hg, hnc, hcm, hcs, ht⟩
  · simp only [Value.slice.injEq] at e
    obtain ⟨rfl, rfl, rfl⟩ := e
    exact .inl ⟨rfl, rfl⟩
  · simp only [Value.slice.injEq] at e
    obtain ⟨rfl, -, rfl⟩ := e
    exact .inr ⟨g, cap, cur, rfl, hB, hg, Nat.zero_le _, hcm, hcs, by simp⟩

/-- 'copy(pending, preds)': over a row of the call's own. -/
theorem copy_over {P : Program} {w : World} {B : Nat} {T : TypeId} {po : Option Addr} {n pc : Nat} {Pl : List Int} (hu : P.underlying T = some (.slice 21)) (hs : (P.info? 21).map (·.size) = some 1)
    (hp : Own B w po n pc Pl) {qo : Option Addr} {q qc : Nat} {Q : List Int} (hq : Rd w qo q qc Q) :
    ∃ w' m, (∀ ty, (Builtin.copy_ #[T, T] ty #[.slice po n pc, .slice qo q qc]).run P w = .ok (goInt m) w') ∧ Own B w' po n pc (over Q Pl) ∧ Below B w w' ∧
      (∀ k, (∀ g, po = some ⟨g, 0, Option.none⟩ → k ≠ g) → w'.heap[k]? = w.heap[k]?) := by
  have hpl := hp.rd.len
  have hql := hq.len
  by_cases h0 : Nat.min q n = 0
  · refine ⟨w, 0, fun ty => run_copy_none (P := P) w T T ty 21 po qo n pc q qc hu hs h0, ?_, Below.refl _ _, fun _ _ => rfl⟩
    have e : over Q Pl = Pl := by
      unfold over
      rcases (show q = 0 ∨ n = 0 from by simp only [Nat.min_def] at h0; split at h0 <;> omega) with h | h
      · rw [List.eq_nil_of_length_eq_zero (show Q.length = 0 by omega)]; simp
      · rw [List.eq_nil_of_length_eq_zero (show Pl.length = 0 by omega)]; simp
    rw [e]; exact hp
  · have hqn : 0 < q ∧ 0 < n := by simp only [Nat.min_def] at h0; split at h0 <;> omega
    cases qo with
    | none => have := (hq.nil rfl).1; omega
    | some ad =>
      rcases hp.2 with ⟨e, hn0⟩ | ⟨g, cap', cur, e, hB, hg, hnc, hcm, hcs, ht⟩
      · omega
      · simp only [Value.slice.injEq] at e
        obtain ⟨rfl, -, rfl⟩ := e
        have hcl : ((Q.take n).map (Value.int .i32)).length = Nat.min q n := by simp [hql, Nat.min_comm]
        have hrun := fun ty => run_copy_row (P := P) w T T ty 21 g 0 n pc ad q qc cur 21 ((Q.take n).map (Value.int .i32)) hu hs hg hcl
          (fun j v hj => by
            have hj' : j < (Q.take n).length := by have := (List.getElem?_eq_some_iff.1 hj).1; simpa using this
            rw [hq.at_ ad rfl j (by simp at hj'; omega)]
            rw [List.getElem?_map, List.getElem?_eq_getElem hj'] at hj
            rw [List.getD, List.getElem?_eq_getElem (by simp at hj'; omega)]
            simpa using hj)
          (by rw [hcl]; simp only [Nat.min_def]; split <;> omega) (ints_oneCell _ _)
        refine ⟨_, _, hrun, ⟨by simp [over_length, hpl], .inr ⟨g, pc, _, rfl, hB, setRow_heap w g cur _ 21 (0, 0) hg, hnc, hcm, ?_, ?_⟩⟩, ⟨rfl, rfl, rfl, by simp [World.setRow], fun k hk => setRow_other w g k _ (by omega)⟩, fun k hk => setRow_other w g k _ (hk g rfl)⟩
        · simp only [List.size_toArray, List.length_append, List.take_zero, List.length_nil, List.length_drop, hcl, Array.length_toList, Nat.zero_add]
          simp only [Nat.min_def] at *
          split <;> omega
        · simp only [Nat.mul_one] at ht ⊢
          rw [List.take_zero, List.nil_append, Nat.zero_add, List.toList_toArray, hcl]
          unfold over
          rw [List.map_append, List.map_drop, ← ht, ← hpl]
          rw [List.take_append]
          simp only [List.length_map, List.length_take]
          rw [List.take_of_length_le (by simp; omega)]
          congr 1
          rw [List.drop_take, ← hql]
          by_cases hh : q ≤ n
          · rw [show n - min n q = n - q by omega, show Nat.min q n = q from Nat.min_eq_left hh]
          · rw [show n - q = 0 by omega]
            simp; omega

end Go.Proofs.Qxb6632546a
