/-
  SEAT b6632546a: (links).start and ZZlinksStart by contracts.
-/
import Derived.Test.Qxb6632546aWalk1
namespace Go.Proofs.Qxb6632546a
open Go Go.RowKit

theorem own_shape {B : Nat} {w : World} {v : Value} {n : Nat} {L : List Int} (h : w.ownsRow B 21 1 v n (L.map (Value.int .i32))) : ∃ ao cap, v = .slice ao n cap ∧ Own B w ao n cap L := by
  rcases h.2 with ⟨e, h0⟩ | ⟨g, cap, cur, e, _⟩
  · subst e; subst h0; exact ⟨none, 0, rfl, h⟩
  · subst e; exact ⟨_, _, rfl, h⟩

set_option maxRecDepth 100000 in
set_option maxHeartbeats 2000000 in
/-- 'start', the ready slice already cut to nothing by its shape. -/
theorem start_any (fv nv : Value) (fo no : Option Addr) (fl fc nl nc : Nat) (hfv : fv = .slice fo fl fc) (hnv : nv = .slice no nl nc) (qo po ro : Option Addr) (q qc n pc m rc : Nat) (Q P R : List Int) (B Br : Nat) (w : World) (hq : Rd w qo q qc Q) (hp : Own B w po n pc P) (hr : Own Br w ro m rc R)
    (hB : B ≤ Br) (hBr : Br ≤ w.heap.size) (hpb : ∀ g, po = some ⟨g, 0, none⟩ → g < Br) (hn : n ≤ 32768) :
    Calls Try.prog 11 #[.agg #[fv, nv, .slice qo q qc], .slice po n pc, .slice ro m rc] w fun e w' => ∃ ao cap, e = .returned (.slice ao (Z (over Q P) n).length cap) ∧
      Own B w' po n pc (over Q P) ∧ Own Br w' ao (Z (over Q P) n).length cap (Z (over Q P) n) ∧ Below B w w' := by
  subst hfv hnv
  obtain ⟨i0, hi, hz0, hz1, hz2⟩ := info_parts info21
  obtain ⟨wA, hwA⟩ : ∃ wA, wA = w.alloc (.cells #[.slice fo fl fc, .slice no nl nc, .slice qo q qc] 30) := ⟨_, rfl⟩
  have hbA : Below w.heap.size w wA := by rw [hwA]; exact (Below.refl _ _).alloc (Nat.le_refl _) _
  have hqA := hq.on hbA
  have hpA : Own B wA po n pc P := hp.on hbA (fun g e => (hp.lt g e).2)
  have hrA : Own Br wA ro m rc R := hr.on hbA (fun g e => (hr.lt g e).2)
  obtain ⟨w1, mm, hcp, hp1, hb1, hoth⟩ := copy_over (P := Try.prog) (T := 22) Try.underlying22 size21 hpA hqA
  have hr1 : Own Br w1 ro m rc R := by
    refine ⟨hrA.1, ?_⟩
    rcases hrA.2 with h0 | ⟨g, cap', cur, e, hB', hg, r⟩
    · exact .inl h0
    · exact .inr ⟨g, cap', cur, e, hB', by rw [hoth g (fun g' e' => by have := hpb g' e'; omega)]; exact hg, r⟩
  have hr0 := hr1.none
  have hbw : Below B w w1 := (hbA.mono (by omega)).trans hb1
  have hs1 : w.heap.size ≤ w1.heap.size := hbw.size
  have hPl : (over Q P).length = n := by rw [over_length, ← hp.rd.len]
  obtain ⟨X, hX⟩ : ∃ X, X = over Q P := ⟨_, rfl⟩
  rw [← hX] at hp1 hPl ⊢
  have HX : Hid (X.length = n) := hPl
  have Hp1 := Lib.hid hp1
  have Hr0 := Lib.hid hr0
  have Hb1 := Lib.hid hbw
  subst hwA
  clear hX hPl hqA hpA hrA hr1 hoth hp hq hr hbA hb1 hp1 hr0 hbw
  cases ro
  all_goals
    go_enter Try.func11, Try.ntmps11
    go_wp2
    go_loopw [2, 17] (fun v i wr => ∃ k : Nat, k ≤ n ∧ i = .int .i64 k ∧ wr.ownsRow Br 21 1 v (Z X k).length ((Z X k).map (Value.int .i32)) ∧ Own B wr po n pc X ∧ Below B w wr) (fun _ i _ => n - (intOf i).toNat)
    case atStart => exact ⟨0, Nat.zero_le _, rfl, Hr0.out, Hp1.out, Hb1.out⟩
    case round =>
      obtain ⟨k, hk, rfl, hown, hp, hb⟩ := hrel
      have hsw := hb.size
      clear hcp Hp1 Hr0 Hb1
      by_cases hlt : k < n
      · obtain ⟨g, rfl, hBg, hgl⟩ := hp.block (by omega)
        have hgB := hpb g rfl
        have hcell : wr.cell? ⟨g, k, none⟩ = some (.int .i32 (X.getD k 0)) := by
          have := hp.rd.at_ _ rfl k hlt
          rw [Addr.add_lit, Nat.zero_add] at this
          exact this
        have hzl := Z_length_le X k
        obtain ⟨x, hx⟩ : ∃ x, x = X.getD k 0 := ⟨_, rfl⟩
        rw [← hx] at hcell
        by_cases hx0 : x = 0
        · have hb0 : (x == 0) = true := by simp [hx0]
          have HZ : Hid (Z X (k + 1) = Z X k ++ [(k : Int)]) := Z_succ_zero X k (by rw [← hx]; exact hx0)
          clear hx hx0
          go_wp2_with (at_builtin; refine wpList_append_own _ rfl _ _ 22 rfl Br 21 i0 (.int .i32 0) 1 4 Try.underlying22 hi hz0 hz1 hz2 rfl (by decide) _ _ _ rfl (hown.alloc _) ⟨wr.heap.size, 0, none⟩ 1 1 [Value.int .i32 (k : Int)] rfl rfl (by intro j u' hj; match j, hj with | 0, hj => simp at hj; subst hj; simp [Addr.add]) (by intro u' hu'; simp at hu'; subst hu'; rfl) (by unfold maxLen; omega) (by omega) (by simp; omega) ?_; intro v2 w2 hown2 hgrow _; refine Hid.out ?_)
          refine Lib.hid ?_
          have hb2 : Below Br wr w2 := ((Below.refl _ wr).alloc (by omega) _).grown hgrow (by simp; omega) (fun k hk => (hown.lt k hk).1)
          have hp2 : Own B w2 (some ⟨g, 0, none⟩) n pc X := hp.on hb2 (fun g' e => by simp at e; omega)
          have hbw2 : Below B w w2 := hb.trans (hb2.mono hB)
          clear hgrow hown hp hb2
          go_wp2
          go_roundw
          case rel => exact ⟨k + 1, by omega, by go_num, by rw [HZ.out]; simpa using hown2, hp2, hbw2⟩
          case measure => simp [intOf]; omega
        · have hb0 : (x == 0) = false := by simp [hx0]
          have HZ : Hid (Z X (k + 1) = Z X k) := Z_succ_not X k (by rw [← hx]; exact hx0)
          clear hx hx0
          go_wp2
          go_roundw
          case rel => exact ⟨k + 1, by omega, by go_num, by rw [HZ.out]; exact hown, hp, hb⟩
          case measure => simp [intOf]; omega
      · obtain rfl : k = n := by omega
        obtain ⟨ao, cap, rfl, ho⟩ := own_shape hown
        go_wp2
        go_ret
        exact ⟨ao, cap, rfl, hp, ho, hb⟩

set_option maxRecDepth 100000 in
/-- ZZlinksStart. -/
theorem links_any (fo no : Option Addr) (fl fc nl nc : Nat) (qo po ro : Option Addr) (q qc n pc m rc : Nat) (Q P R : List Int) (B Br : Nat) (w : World) (hq : Rd w qo q qc Q) (hp : Own B w po n pc P) (hr : Own Br w ro m rc R)
    (hB : B ≤ Br) (hBr : Br ≤ w.heap.size) (hpb : ∀ g, po = some ⟨g, 0, none⟩ → g < Br) (hn : n ≤ 32768) :
    Calls Try.prog 7 #[.slice fo fl fc, .slice no nl nc, .slice qo q qc, .slice po n pc, .slice ro m rc] w fun e w' => ∃ ao cap, e = .returned (.slice ao (Z (over Q P) n).length cap) ∧
      Own B w' po n pc (over Q P) ∧ Own Br w' ao (Z (over Q P) n).length cap (Z (over Q P) n) ∧ Below B w w' := by
  go_enter Try.func7, Try.ntmps7
  go_wp2_with fail
  refine (start_any _ _ fo no fl fc nl nc rfl rfl qo po ro q qc n pc m rc Q P R B Br w hq hp hr hB hBr hpb hn).mono ?_
  rintro e w' ⟨ao, cap, rfl, h1, h2, h3⟩
  go_wp2
  go_ret
  exact ⟨ao, cap, rfl, h1, h2, h3⟩

end Go.Proofs.Qxb6632546a
