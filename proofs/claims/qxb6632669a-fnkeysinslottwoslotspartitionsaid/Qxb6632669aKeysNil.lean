/-
  SEAT b6632669a: KeysInSlot at a slot that holds no map.
-/
import Derived.Test.Qxb6632669aKeys2
namespace Go.Proofs.Qxb6632669a
open Go Go.RowKit Go.Maps Go.RwLone
open Go.Proofs (encStr)

set_option maxRecDepth 100000 in
set_option maxHeartbeats 4000000 in
theorem keys_nil (b k c : Nat) (C : List Value) (sets : Nat → Value) (w : World) (hS : IsStore w b C sets) (hk : k < 16384) (hset : sets k = .map none) (hcm : c ≤ 9223372036854775807) :
    Calls Try.prog 7 #[.pointer (some ⟨b, 0, none⟩), .int .i64 k, .int .i64 c] w fun e w' => ∃ (g cap : Nat), e = .returned (.slice (some ⟨g, 0, none⟩) 0 cap) ∧ Below w.heap.size w w' := by
  obtain ⟨i0, hi, hz0, hz1, hz2⟩ := info_parts info9
  have hL := locked_mk hS
  have x0 : w.cell? ⟨b, 0, none⟩ = some (.int .i32 0) := (hS.cell 0).trans hS.c0
  have x3 : w.cell? ⟨b, 0 + 3, none⟩ = some (.int .u32 0) := (hS.cell 3).trans hS.c3
  have x4 : w.cell? ⟨b, 0 + 4, none⟩ = some (.int .i32 0) := (hS.cell 4).trans hS.c4
  have xz : w.frozen? ⟨b, 0 + 4, none⟩ = false := frozen_of_row w b 4 C.toArray 48 hS.blk
  have hlk := rlock_open rwRLib b 0 0 _ _ w x0 x3 x4 xz wrap1
  obtain ⟨W, hW⟩ : ∃ W, W = w.setCell ⟨b, 0 + 4, none⟩ (.int .i32 (wrap32 (0 + 1))) := ⟨_, rfl⟩
  rw [← hW] at hlk
  have hL : Locked w W b C := by rw [hW]; exact hL
  have hcell : W.cell? ⟨b, 7 + k, none⟩ = some (.map none) := by rw [hL.cell, lockedC_at (by omega), hS.at_ k hk, hset]
  have hki : (k : Int) < 16384 := by omega
  have hbl : b < W.heap.size := by rw [hL.size]; exact hS.lt
  have HL := Lib.hid hL
  have HS := Lib.hid hS
  have HLK := Lib.hid hlk
  clear hW hL hS hset x0 x3 x4 xz hlk
  have hln : ∀ (ty : TypeId) (V : World), (Builtin.len_ #[24] ty #[.map none]).run Try.prog V = .ok (.int .i64 0) V := fun ty V => Maps.len_nil (w := V) Try.underlying24 ty
  go_enter_defers Try.func7, Try.ntmps7
  go_wp2_with (go_at_call 10; refine HLK.out.mono ?_; rintro e w' ⟨rfl, hw⟩; obtain rfl := hw.symm; refine Hid.out ?_)
  refine Lib.hid ?_
  rcases (show 0 < c ∨ c = 0 from by omega) with hcs | rfl
  all_goals
    go_wp2_with (at_make; refine wpList_make_own _ rfl _ _ 22 rfl W.heap.size 9 i0 (.string ⟨#[]⟩) 1 Try.underlying22 hi hz0 hz1 _ _ _ 0 rfl rfl rfl (by omega) (Nat.zero_le _) (Nat.le_refl _) ?_; intro w1 hrow1 hg1; refine Hid.out ?_)
    refine Lib.hid ?_
    have hb1 : Below W.heap.size W w1 := (Below.refl W.heap.size W).grown hg1 (Nat.le_refl _) (fun j hj => by cases hj)
    have hcell1 : w1.cell? ⟨b, 7 + k, none⟩ = some (.map none) := (hb1.cell (p := ⟨b, 7 + k, none⟩) hbl).trans hcell
    have hrg := run_range_nilMap (P := Try.prog) w1 24 9 26 Try.underlying24
    have hnx : ∀ ty, (Instr.next (.pointer (some ⟨w1.heap.size, 0, none⟩)) false ty).run Try.prog (w1.alloc (.mapIter none 0 #[] 0)) = _ := fun ty => run_next_nilMap _ ty 0 0 #[]
    have hb2 : Below W.heap.size W (w1.alloc (.mapIter none 0 #[] 0)) := hb1.alloc hb1.size _
    obtain ⟨y0, y2, y4, yz⟩ := locked_facts HS.out HL.out hb2
    have HY := Lib.hid (And.intro y0 (And.intro y2 (And.intro y4 yz)))
    clear y0 y2 y4 yz
    go_wp2
    refine wp_loop_rounds 1 ?_
    rw [rounds_succ]
    go_wp2
    refine leaves_cons (f := 11) (args := #[.pointer (some ⟨b, 0, none⟩)]) (by simp) (by simp [go_sem]) ?_
    refine (runlock_deferred rwRLib b 0 (wrap32 (0 + 1)) _ _ .returning _ HY.out.1 HY.out.2.1 HY.out.2.2.1 HY.out.2.2.2 wrap0).mono ?_
    rintro e u' w'' ⟨rfl, rfl, rfl⟩
    exact ⟨_, results_tmp rfl _ _ _, _, _, rfl, unlocked HS.out HL.out hb2⟩

end Go.Proofs.Qxb6632669a
