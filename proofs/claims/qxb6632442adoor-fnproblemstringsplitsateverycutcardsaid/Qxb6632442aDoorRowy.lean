/-
  SEAT b6632442aD: rows of integers: what a slice that came in holds ('IsRow'), what a slice of the call's own holds ('Row'), 'copy' into a new row. Nothing of the dump.
-/
import Derived.WalkKit
import Derived.WalkSpells
import Derived.Laws.CopyOwn
namespace Go.Proofs.Qxb6632442aDoor
open Go Go.RowKit

/-- WHAT THE WALK IS TOLD OF A SLICE OF INTEGERS THAT CAME IN: it is nil; or it leads to a row of 'cap' cells, the numbers 'zs'. -/
def IsRow (k : IntKind) (w : World) (a : Option Addr) (len cap : Nat) (zs : List Int) : Prop :=
  (a = none ∧ len = 0 ∧ cap = 0 ∧ zs = []) ∨
  ∃ x, a = some x ∧ len ≤ cap ∧ cap ≤ maxLen ∧ zs.length = cap ∧ (∀ i, i < zs.length → w.cell? (x.add i) = some (.int k (zs.getD i 0))) ∧ ∀ n ∈ zs, (Lit.int k n).wf = true

/-- A slice of the call's own: nil, or the whole of a row of its own. -/
def Row (k : IntKind) (w : World) (ao : Option Addr) (n cap : Nat) (L : List Int) : Prop :=
  n = L.length ∧ ((ao = none ∧ cap = 0 ∧ L = []) ∨ ∃ g, ao = some ⟨g, 0, none⟩ ∧ g < w.heap.size ∧ cap = n ∧ ∀ i, i < n → w.cell? ⟨g, i, none⟩ = some (.int k (L.getD i 0)))

theorem Row.on {k : IntKind} {w w' : World} {ao : Option Addr} {n cap : Nat} {L : List Int} (h : Row k w ao n cap L) (hb : Below w.heap.size w w') : Row k w' ao n cap L := by
  obtain ⟨hn, h | ⟨g, e, hg, hc, h⟩⟩ := h
  · exact ⟨hn, .inl h⟩
  · exact ⟨hn, .inr ⟨g, e, Nat.lt_of_lt_of_le hg hb.size, hc, fun i hi => (hb.cell (p := ⟨g, i, none⟩) hg).trans (h i hi)⟩⟩

/-- 'copy' over the whole of a new row. -/
theorem copy_full {P : Program} {w : World} {B : Nat} {e T : TypeId} {g n c : Nat} {xs : List Value} (hu : P.underlying T = some (.slice e)) (hs : (P.info? e).map (·.size) = some 1)
    (hown : w.ownsRow B e 1 (.slice (some ⟨g, 0, none⟩) n n) n xs) (a : Addr) (cs : List Value) (hn : cs.length = n)
    (hsrc : ∀ j v, cs[j]? = some v → w.cell? (a.add j) = some v) (h1 : ∀ v ∈ cs, v.oneCell' = true) :
    ∃ w', (∀ ty, (Builtin.copy_ #[T, T] ty #[.slice (some ⟨g, 0, none⟩) n n, .slice (some a) n c]).run P w = .ok (goInt n) w') ∧
      w'.ownsRow B e 1 (.slice (some ⟨g, 0, none⟩) n n) n cs ∧ w.grownBy w' (some g) := by
  obtain ⟨hl, ⟨h0, _⟩ | ⟨g', cap, cur, he, hB, hg, hnc, hcm, hcs, _⟩⟩ := hown
  · cases h0
  · simp only [Value.slice.injEq, Option.some.injEq, Addr.mk.injEq] at he
    obtain ⟨⟨rfl, -, -⟩, -, rfl⟩ := he
    have hrow : (cur.toList.take 0 ++ cs ++ cur.toList.drop (0 + cs.length)) = cs := by
      rw [List.take_zero, List.nil_append, List.drop_of_length_le (by rw [Array.length_toList]; omega), List.append_nil]
    refine ⟨w.setRow g cs.toArray, fun ty => ?_, ⟨by omega, .inr ⟨g, n, cs.toArray, rfl, hB, setRow_heap w g cur _ e (0, 0) hg, hnc, hcm, by simp; omega, ?_⟩⟩, ?_⟩
    · have := run_copy_row (P := P) w T T ty e g 0 n n a n c cur e cs hu hs hg (by rw [hn]; simp) hsrc (by omega) h1
      rw [hrow, hn] at this
      exact this
    · exact List.take_of_length_le (by simp; omega)
    · exact ⟨rfl, rfl, rfl, by simp [World.setRow], fun k hk hne => setRow_other w g k _ (by intro e; exact hne (by rw [e]))⟩

theorem row_of_own {k : IntKind} {w : World} {B : Nat} {e : TypeId} {g n cap : Nat} {L : List Int} (hcap : cap = n) (h : w.ownsRow B e 1 (.slice (some ⟨g, 0, none⟩) n cap) n (L.map (Value.int k))) : Row k w (some ⟨g, 0, none⟩) n cap L := by
  have hl := h.1
  simp only [List.length_map, Nat.mul_one] at hl
  refine ⟨by omega, .inr ⟨g, rfl, (h.lt g rfl).2, hcap, fun i hi => ?_⟩⟩
  have := h.cells (g := g) rfl i (.int k (L.getD i 0)) (by rw [List.getElem?_map, List.getD, List.getElem?_eq_getElem (by omega)]; rfl)
  simpa [Addr.add_lit] using this

/-- What a slice that came in holds, as 'copy' reads it. -/
theorem src_of {k : IntKind} {w w' : World} {x : Addr} {len cap : Nat} {zs : List Int} (hlc : len ≤ cap) (hz : zs.length = cap) (hc : ∀ i, i < zs.length → w.cell? (x.add i) = some (.int k (zs.getD i 0)))
    (hb : Below w.heap.size w w') : ∀ j v, ((zs.take len).map (Value.int k))[j]? = some v → w'.cell? (x.add j) = some v := by
  intro j v hv
  have hj : j < len := by
    have := (List.getElem?_eq_some_iff.1 hv).1
    simp at this; omega
  have h := hc j (by omega)
  have hblk : (x.add j).block < w.heap.size := World.block_lt_of_cell? w _ h
  rw [hb.cell hblk, h]
  rw [List.getElem?_map, List.getElem?_take, if_pos hj, List.getElem?_eq_getElem (by omega)] at hv
  rw [List.getD, List.getElem?_eq_getElem (by omega)]
  exact hv

end Go.Proofs.Qxb6632442aDoor
