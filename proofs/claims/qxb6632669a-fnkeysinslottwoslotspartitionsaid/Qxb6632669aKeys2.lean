/-
  SEAT b6632669a: (*Store).KeysInSlot, the walk.
-/
import Derived.Test.Qxb6632669aKeys
import Derived.Defers
namespace Go.Proofs.Qxb6632669a
open Go Go.RowKit Go.Maps Go.RwLone
open Go.Proofs (encStr)

/-- WHAT KeysInSlot HANDS BACK: so many keys as asked or as there are, each a key of the map, none twice. -/
structure Got {H : Type} (D0 : DataW H) (c : Nat) (ss : List (List UInt8)) : Prop where
  nodup : ss.Nodup
  mem : ∀ x ∈ ss, has D0 (.string x) = true
  len : ss.length = min c (Maps.size D0)
  all : Maps.size D0 < c → ∀ x, has D0 (.string x) = true → x ∈ ss

theorem locked_facts {w W V : World} {b : Nat} {C : List Value} {sets : Nat → Value} (hS : IsStore w b C sets) (h : Locked w W b C) (hb : Below W.heap.size W V) :
    V.cell? ⟨b, 0, none⟩ = some (.int .i32 0) ∧ V.cell? ⟨b, 0 + 2, none⟩ = some (.int .u32 0) ∧ V.cell? ⟨b, 0 + 4, none⟩ = some (.int .i32 (wrap32 (0 + 1))) ∧ V.frozen? ⟨b, 0 + 4, none⟩ = false := by
  have hlt : b < W.heap.size := by rw [h.size]; exact hS.lt
  have hVb : V.heap[b]? = some (.cells (lockedC C).toArray 48 (0, 0)) := (hb.block b hlt).trans h.blk
  have hc : ∀ j, V.cell? ⟨b, j, none⟩ = (lockedC C)[j]? := fun j => (hb.cell (p := ⟨b, j, none⟩) hlt).trans (h.cell j)
  exact ⟨(hc 0).trans ((lockedC_at (by omega)).trans hS.c0), (hc 2).trans ((lockedC_at (by omega)).trans hS.c2), (hc 4).trans (lockedC_4 hS.c4), frozen_of_row V b 4 _ 48 hVb⟩

theorem got_full {H : Type} {D0 : DataW H} {left : Lit → Bool} {ss : List (List UInt8)} {c cnt : Nat} (hC : Collected D0 left ss) (hcc : ss.length + cnt ≤ Maps.size D0) (hfull : ss.length = c) : Got D0 c ss :=
  ⟨hC.1, fun x hx => ((hC.2 x).1 hx).1, by omega, fun h => by omega⟩
theorem got_all {H : Type} {w : World} {sb n : Nat} {D0 : DataW H} {left : Lit → Bool} {ss : List (List UInt8)} {c : Nat} (hown : w.ownsMap Try.prog 9 unitElem sb n D0) (hC : Collected D0 left ss) (hl0 : ∀ kl, left kl = false) (hsc : ss.length ≤ c) : Got D0 c ss := by
  have hp := hC.perm hown law9 Try.underlying9 hl0
  obtain ⟨es, rfl, _⟩ := hown.entries law9
  have hlen : ss.length = es.length := by simpa [strKeys] using hp.length_eq
  exact ⟨hC.1, fun x hx => ((hC.2 x).1 hx).1, by show ss.length = min c es.length; omega, fun _ x hx => (hC.2 x).2 ⟨hx, hl0 _⟩⟩

set_option maxRecDepth 100000 in
set_option maxHeartbeats 4000000 in
theorem keys_any {H : Type} (b sb k n c : Nat) (C : List Value) (sets : Nat → Value) (D0 : DataW H) (w : World) (hS : IsStore w b C sets) (hk : k < 16384) (hset : sets k = .map (some sb)) (hown : w.ownsMap Try.prog 9 unitElem sb n D0) (hsb : sb ≠ b) (hn : n ≤ 65536) (hcm : c ≤ 9223372036854775807) :
    Calls Try.prog 7 #[.pointer (some ⟨b, 0, none⟩), .int .i64 k, .int .i64 c] w fun e w' => ∃ (g cap : Nat) (ss : List (List UInt8)), e = .returned (.slice (some ⟨g, 0, none⟩) ss.length cap) ∧ Got D0 c ss ∧
      w'.ownsRow w.heap.size 9 1 (.slice (some ⟨g, 0, none⟩) ss.length cap) ss.length (ss.map encStr) ∧ Below w.heap.size w w' := by
  obtain ⟨i0, hi, hz0, hz1, hz2⟩ := info_parts info9
  have hL := locked_mk hS
  have x0 : w.cell? ⟨b, 0, none⟩ = some (.int .i32 0) := (hS.cell 0).trans hS.c0
  have x3 : w.cell? ⟨b, 0 + 3, none⟩ = some (.int .u32 0) := (hS.cell 3).trans hS.c3
  have x4 : w.cell? ⟨b, 0 + 4, none⟩ = some (.int .i32 0) := (hS.cell 4).trans hS.c4
  have xz : w.frozen? ⟨b, 0 + 4, none⟩ = false := frozen_of_row w b 4 C.toArray 48 hS.blk
  have hlk := rlock_open rwRLib b 0 0 _ _ w x0 x3 x4 xz wrap1
  obtain ⟨W, hW⟩ : ∃ W, W = w.setCell ⟨b, 0 + 4, none⟩ (.int .i32 (wrap32 (0 + 1))) := ⟨_, rfl⟩
  rw [← hW] at hlk
  have hL : Locked w W b C := by rw [hW]; exact hL
  have hownW := runl_locked hL hown hsb
  have hcell : W.cell? ⟨b, 7 + k, none⟩ = some (.map (some sb)) := by rw [hL.cell, lockedC_at (by omega), hS.at_ k hk, hset]
  have hsz := hownW.size_le
  have hki : (k : Int) < 16384 := by omega
  have hsl : sb < W.heap.size := hownW.lt
  have hbl : b < W.heap.size := by rw [hL.size]; exact hS.lt
  have HL := Lib.hid hL
  have HS := Lib.hid hS
  have HLK := Lib.hid hlk
  clear hW hL hS hset hown x0 x3 x4 xz hlk
  obtain ⟨m, hm⟩ : ∃ m, m = min c (Maps.size D0) := ⟨_, rfl⟩
  go_enter_defers Try.func7, Try.ntmps7
  go_wp2_with (go_at_call 10; refine HLK.out.mono ?_; rintro e w' ⟨rfl, hw⟩; obtain rfl := hw.symm; refine Hid.out ?_)
  refine Lib.hid ?_
  have HM := Lib.hid hm
  clear hm
  rcases (show Maps.size D0 < c ∨ c ≤ Maps.size D0 from by omega) with hcs | hcs
  all_goals
    go_wp2_with (first
      | (at_len; refine wpList_len_own _ rfl _ 24 rfl 9 26 Try.underlying24 _ sb n _ rfl hownW ?_)
      | (at_make; refine wpList_make_own _ rfl _ _ 22 rfl W.heap.size 9 i0 (.string ⟨#[]⟩) 1 Try.underlying22 hi hz0 hz1 _ _ _ m rfl rfl (by rw [HM.out]; omega) (by rw [hz2, HM.out]; omega) (by unfold maxLen; rw [HM.out]; omega) (Nat.le_refl _) ?_; intro w1 hrow1 hg1; refine Hid.out ?_))
    refine Lib.hid ?_
    have hcell1 : w1.cell? ⟨b, 7 + k, none⟩ = some (.map (some sb)) := (((Below.refl W.heap.size W).grown hg1 (Nat.le_refl _) (fun j hj => by cases hj)).cell (p := ⟨b, 7 + k, none⟩) hbl).trans hcell
    go_wp2_with (at_range; refine wpList_range_own _ rfl _ 24 rfl 9 26 law9 Try.underlying24 _ sb n _ rfl (hownW.kept hg1 (by simp)) ?_; intro w0 hrg0 hg0 hs0)
    go_frame
    go_loopw [7] (fun v wr => ∃ (left : Lit → Bool) (cnt : Nat) (ss : List (List UInt8)), wr.ranges Try.prog 9 unitElem sb w1.heap.size n D0 left cnt ∧ ss.length + cnt ≤ Maps.size D0 ∧ ss.length ≤ c ∧
        wr.ownsRow W.heap.size 9 1 v ss.length (ss.map encStr) ∧ v ≠ .slice none 0 0 ∧ Collected D0 left ss ∧ Below W.heap.size W wr)
      (fun _ wr => wr.rangeLeft sb w1.heap.size)
    case atStart =>
      exact ⟨_, _, [], hrg0, by simp, by simp, hrow1.kept hg0 (Or.inr (by simp [Value.ownBlock])), by simp, Collected.start D0,
        ((Below.refl _ _).grown hg1 (Nat.le_refl _) (fun j hj => by cases hj)).grown hg0 hg1.size (fun j hj => by cases hj)⟩
    case round =>
      obtain ⟨left, cnt, ss, hrg, hcc, hsc, hrow, hnn, hC, hnx⟩ := hrel
      rcases hrow.2 with ⟨hnil, _⟩ | ⟨g, cap, cur, rfl, hbase, hb, h1, h2, h3, h4⟩
      · exact absurd hnil hnn
      clear hnn hb h1 h2 h3 h4
      go_wp2_with (at_next; refine wpList_next_ranges _ rfl _ rfl 9 law9 unitElem encStr (fun _ : Unit => Value.agg #[]) (fun key kl hk => by obtain ⟨x, hx, _⟩ := Maps.keyOf_str Try.underlying9 hk; exact ⟨x, hx⟩) (fun v y hv => by obtain ⟨h1, _⟩ := unitElem_inv hv; exact ⟨(), h1⟩) sb w1.heap.size n _ _ _ rfl hrg ?_ ?_)
      · intro hc0 hl0
        obtain ⟨y0, y2, y4, yz⟩ := locked_facts HS.out HL.out hnx
        go_wp2
        refine leaves_cons (f := 11) (args := #[.pointer (some ⟨b, 0, none⟩)]) (by simp) (by simp [go_sem]) ?_
        refine (runlock_deferred rwRLib b 0 (wrap32 (0 + 1)) _ _ .returning _ y0 y2 y4 yz wrap0).mono ?_
        rintro e u' w'' ⟨rfl, rfl, rfl⟩
        exact ⟨_, results_tmp rfl _ _ _, g, cap, ss, rfl, got_all hownW hC hl0 hsc, HL.out.size ▸ ownsRow_setCell_below hrow (a := ⟨b, 0 + 4, none⟩) hbl _, unlocked HS.out HL.out hnx⟩
      · intro x c1 kl y w2 cnt2 hkey hlk hv hat hrg2 hlt hg2 hs2 hen
        obtain ⟨x', ex, rfl, _⟩ := Maps.keyOf_str Try.underlying9 hkey
        obtain rfl : x = x' := encStr_inj ex
        have hrow2 := hrow.kept hg2 (Or.inr (row_ne_iter hrow hrg).symm)
        clear hs2
        by_cases hfull : ss.length = c
        · obtain ⟨y0, y2, y4, yz⟩ := locked_facts HS.out HL.out (hnx.grown hg2 hnx.size (fun j hj => by cases hj; exact hg1.size))
          go_wp2
          refine leaves_cons (f := 11) (args := #[.pointer (some ⟨b, 0, none⟩)]) (by simp) (by simp [go_sem]) ?_
          refine (runlock_deferred rwRLib b 0 (wrap32 (0 + 1)) _ _ .returning _ y0 y2 y4 yz wrap0).mono ?_
          rintro e u' w'' ⟨rfl, rfl, rfl⟩
          exact ⟨_, results_tmp rfl _ _ _, g, cap, ss, by rw [hfull]; rfl, got_full hC hcc hfull, HL.out.size ▸ ownsRow_setCell_below hrow2 (a := ⟨b, 0 + 4, none⟩) hbl _, unlocked HS.out HL.out (hnx.grown hg2 hnx.size (fun j hj => by cases hj; exact hg1.size))⟩
        · go_wp2_with (at_builtin; refine wpList_append_own _ rfl _ _ 22 rfl W.heap.size 9 i0 (.string ⟨#[]⟩) 1 16 Try.underlying22 hi hz0 hz1 hz2 rfl (by decide) _ _ _ rfl (hrow2.alloc _) ⟨w2.heap.size, 0, none⟩ 1 1 [encStr x] rfl rfl (cell_one_new _ _ _) (by simp [Value.oneCell', encStr]) (by unfold maxLen at *; omega) (by omega) (by have := hnx.size; have := hg2.size; simp; omega) ?_; intro v' w3 hown' hg3 hnil3; go_frame)
          have hrg3 := (hrg2.alloc _).kept hg3 (row_ne_low hrow2 hsl) (row_ne_iter hrow2 hrg2)
          go_roundw
          case rel =>
            refine ⟨_, cnt2, ss ++ [x], hrg3, by simp; omega, by simp; omega, by simpa using hown', fun hv' => by have := (hnil3.1 hv').2; omega, hC.step hlk hat, ?_⟩
            exact ((hnx.grown hg2 hnx.size (fun j hj => by cases hj; exact hg1.size)).alloc (by have := hnx.size; have := hg2.size; omega) _).grown hg3 (by have := hnx.size; have := hg2.size; simp; omega) (fun j hj => (hrow2.lt j hj).1)
          case measure => rw [hrg3.left_eq, hrg.left_eq]; exact hlt

end Go.Proofs.Qxb6632669a
