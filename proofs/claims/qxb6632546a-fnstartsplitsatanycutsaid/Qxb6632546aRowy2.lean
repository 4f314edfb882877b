/-
  SEAT b6632546a: 'copy' into a new row; parts of a slice. Nothing of the dump.
-/
import Derived.Test.Qxb6632546aRowy
import Derived.Deep.Draws
namespace Go.Proofs.Qxb6632546a
open Go Go.RowKit

theorem own_made {B : Nat} {w : World} {v : Value} {n : Nat} (h : w.ownsRow B 21 1 v n (madeCells (Value.int .i32 0).cells (n * 1)).toList) : w.ownsRow B 21 1 v n ((List.replicate n (0 : Int)).map (Value.int .i32)) := by
  have e : (madeCells (Value.int .i32 0).cells (n * 1)).toList = (List.replicate n (0 : Int)).map (Value.int .i32) := by
    rw [Nat.mul_one]
    show (madeCells #[Value.int .i32 0] n).toList = _
    rw [toList_madeCells_one, List.map_replicate]
  rw [e] at h
  exact h

theorem over_new (Q : List Int) (n : Nat) (h : n = Q.length) : over Q (List.replicate n 0) = Q := by
  unfold over
  simp [h]

/-- 'zzc := make([]int32, len(x)); copy(zzc, x)'. -/
theorem copy_new {P : Program} {w : World} {B : Nat} {T : TypeId} {po : Option Addr} {n : Nat} (hu : P.underlying T = some (.slice 21)) (hs : (P.info? 21).map (·.size) = some 1)
    (hp : w.ownsRow B 21 1 (.slice po n n) n (madeCells (Value.int .i32 0).cells (n * 1)).toList) {qo : Option Addr} {qc : Nat} {Q : List Int} (hq : Rd w qo n qc Q) :
    ∃ w' m, (∀ ty, (Builtin.copy_ #[T, T] ty #[.slice po n n, .slice qo n qc]).run P w = .ok (goInt m) w') ∧ Own B w' po n n Q ∧ Below B w w' := by
  obtain ⟨w', m, h1, h2, h3, _⟩ := copy_over hu hs (show Own B w po n n (List.replicate n 0) from own_made hp) hq
  rw [over_new Q n hq.len] at h2
  exact ⟨w', m, h1, h2, h3⟩

/-- 'x[:lo]', x not nil. -/
theorem Rd.take {w : World} {ad : Addr} {n cap : Nat} {L : List Int} (h : Rd w (some ad) n cap L) (lo : Nat) (hl : lo ≤ n) : Rd w (some ad) lo cap (L.take lo) := by
  have := h.len
  refine ⟨by simp; omega, fun e => (by cases e), by have := h.le; omega, h.max, fun a e i hi => ?_⟩
  rw [h.at_ a e i (by omega)]
  simp only [List.getD, List.getElem?_take, if_pos hi]

/-- 'x[lo:]', x not nil, the cut not at the row's end. -/
theorem Rd.drop {w : World} {ad : Addr} {n cap : Nat} {L : List Int} (h : Rd w (some ad) n cap L) (lo : Nat) (hl : lo ≤ n) : Rd w (some (ad.add lo)) (n - lo) (cap - lo) (L.drop lo) := by
  have := h.len
  refine ⟨by simp; omega, fun e => (by cases e), by have := h.le; omega, by have := h.max; omega, fun a e i hi => ?_⟩
  obtain rfl := Option.some.inj e
  have h1 := h.at_ ad rfl (lo + i) (by omega)
  have e2 : (ad.add lo).add i = ad.add (lo + i) := by
    unfold Addr.add
    by_cases h0 : lo = 0
    · subst h0; simp
    · by_cases hi0 : i = 0
      · subst hi0; simp
      · simp [h0, hi0]; omega
  rw [e2, h1]
  simp only [List.getD, List.getElem?_drop]

/-- .. at the row's end: nothing is left. -/
theorem Rd.empty (w : World) (ao : Option Addr) (cap : Nat) (hc : cap ≤ maxLen) (hn : ao = none → cap = 0) : Rd w ao 0 cap [] :=
  ⟨rfl, fun e => ⟨rfl, hn e⟩, Nat.zero_le _, hc, fun _ _ i hi => absurd hi (by omega)⟩

theorem Rd.drewN {w : World} {ao : Option Addr} {n cap : Nat} {L : List Int} (h : Rd w ao n cap L) (m : Nat) : Rd (w.drewN m) ao n cap L := ⟨h.len, h.nil, h.le, h.max, h.at_⟩

theorem Rd.congr {w : World} {ao : Option Addr} {n cap : Nat} {L M : List Int} (h : Rd w ao n cap L) (e : L = M) : Rd w ao n cap M := by rw [← e]; exact h

/-- THE COUNT OF ZEROS IN TWO PARTS. -/
theorem zeros_parts (Q P : List Int) (n lo : Nat) (hn : n = P.length) (hlo : lo = min Q.length n) : (Z (over Q P) n).length = cntZ (Q.take lo) lo + cntZ (P.drop lo) (n - lo) := by
  rw [Z_length]
  have e : n = lo + (n - lo) := by omega
  conv => lhs; rw [e, cntZ_split]
  congr 1
  · refine cntZ_congr fun i hi => ?_
    rw [over_getD Q P i (by omega), if_pos (by omega)]
    simp only [List.getD, List.getElem?_take, if_pos hi]
  · refine cntZ_congr fun i hi => ?_
    have e1 : ((over Q P).drop lo).getD i 0 = (over Q P).getD (lo + i) 0 := by simp only [List.getD]; rw [List.getElem?_drop]
    have e2 : (P.drop lo).getD i 0 = P.getD (lo + i) 0 := by simp only [List.getD]; rw [List.getElem?_drop]
    rw [e1, e2, over_getD Q P (lo + i) (by omega), if_neg (by omega)]

end Go.Proofs.Qxb6632546a
