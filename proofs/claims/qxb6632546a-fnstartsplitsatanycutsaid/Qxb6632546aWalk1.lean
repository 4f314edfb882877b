/-
  SEAT b6632546a: zzStartClone, zzStartZeros, zzStartSame by contracts.
-/
import Derived.Test.Qxb6632546aRows
import Derived.Test.Qxb6632546aRowy
import Derived.Lib.Hide
import Derived.RegionTactic
import Derived.Deep.QuietTactic
import Derived.BigQuiet
import Derived.Outline
namespace Go.Proofs.Qxb6632546a
open Go Go.RowKit

theorem info21 : (Try.prog.info? 21).map (fun i => (i.zero, i.size, i.bytes)) = some (some (.int .i32 0), 1, 4) := by kernel_rfl
theorem size21 : (Try.prog.info? 21).map (·.size) = some 1 := by kernel_rfl

theorem clone_nil (w : World) : Calls Try.prog 6 #[.slice none 0 0] w fun e w' => e = .returned (.slice none 0 0) ∧ w' = w := by
  have hnn := fun (w : World) a n c => Lib.run_eql_slice_nil (P := Try.prog) w 22 21 a n c 0 0 Try.underlying22
  go_enter Try.func6, Try.ntmps6
  go_wp2
  go_ret
  exact ⟨rfl, rfl⟩

/-- A row that holds the first k of L. -/
def Upto (k : Nat) (xs : List Value) (L : List Int) : Prop := ∀ i, i < k → xs[i]? = some (.int .i32 (L.getD i 0))

theorem Upto.step {k : Nat} {xs : List Value} {L : List Int} (h : Upto k xs L) (hk : k < xs.length) : Upto (k + 1) (xs.set k (.int .i32 (L.getD k 0))) L := by
  intro i hi
  by_cases e : i = k
  · subst e; simp [hk]
  · rw [List.getElem?_set_ne (by omega)]; exact h i (by omega)

theorem Upto.full {xs : List Value} {L : List Int} (h : Upto L.length xs L) (hl : xs.length = L.length) : xs = L.map (Value.int .i32) := by
  apply List.ext_getElem?
  intro i
  by_cases hi : i < L.length
  · rw [h i hi, List.getElem?_map, List.getD, List.getElem?_eq_getElem hi]; rfl
  · rw [List.getElem?_eq_none (by omega), List.getElem?_eq_none (by simp; omega)]

set_option maxRecDepth 100000 in
set_option maxHeartbeats 1000000 in
theorem clone_some (ad : Addr) (n cap : Nat) (L : List Int) (w : World) (h : Rd w (some ad) n cap L) (hn : n ≤ 32768) :
    Calls Try.prog 6 #[.slice (some ad) n cap] w fun e w' => e = .returned (.slice (some ⟨w.heap.size, 0, none⟩) n n) ∧ Own w.heap.size w' (some ⟨w.heap.size, 0, none⟩) n n L ∧ Below w.heap.size w w' := by
  have hnn := fun (w : World) a n c => Lib.run_eql_slice_nil (P := Try.prog) w 22 21 a n c 0 0 Try.underlying22
  obtain ⟨i0, hi, hz0, hz1, hz2⟩ := info_parts info21
  have HL : Hid (n = L.length) := h.len
  have H : Hid (Rd w (some ad) n cap L) := h
  clear h
  go_enter Try.func6, Try.ntmps6
  go_wp2_with (at_make; refine wpList_make_full _ rfl _ _ 22 rfl w.heap.size 21 i0 (.int .i32 0) 1 Try.underlying22 hi hz0 hz1 _ _ _ _ n rfl rfl rfl rfl (by rw [hz2]; omega) (by unfold maxLen; omega) (Nat.le_refl _) ?_; intro w1 hown1 hgrow1; refine Hid.out ?_)
  refine Lib.hid ?_
  have hb1 : Below w.heap.size w w1 := (Below.refl _ _).grown hgrow1 (Nat.le_refl _) (by intro k hk; cases hk)
  clear hgrow1
  go_wp2
  go_loopw [4] (fun i wr => ∃ k : Nat, ∃ xs, k ≤ n ∧ i = .int .i64 k ∧ wr.ownsRow w.heap.size 21 1 (.slice (some ⟨w.heap.size, 0, none⟩) n n) n xs ∧ Upto k xs L ∧ Below w.heap.size w wr) (fun i _ => n - (intOf i).toNat)
  case atStart => exact ⟨0, _, Nat.zero_le _, rfl, hown1, fun i hi => absurd hi (by omega), hb1⟩
  case round =>
    obtain ⟨k, xs, hk, rfl, hown, hup, hb⟩ := hrel
    clear hown1 hb1
    by_cases hlt : k < n
    · obtain ⟨b, off, e, hblk, hc⟩ := H.out.place (by omega)
      obtain rfl := Option.some.inj e
      have hcell : wr.cell? ⟨b, off + k, none⟩ = some (.int .i32 (L.getD k 0)) := (hb.cell (p := ⟨b, off + k, none⟩) hblk).trans (hc k hlt)
      have hxl := hown.1
      simp only [Nat.mul_one] at hxl
      have hdst : wr.cell? ⟨w.heap.size, k, none⟩ = some (xs.getD k .nilIface) := by
        rw [hown.cellAt k (by omega), List.getD, List.getElem?_eq_getElem (by omega)]; rfl
      have hfz := hown.frozenAt k
      have hst := hown.stored k (.int .i32 (L.getD k 0))
      have hup' := hup.step (k := k) (by omega)
      have HST := Lib.hid hst
      clear hc e hst hown hup H
      go_wp2
      go_roundw
      case rel => exact ⟨k + 1, _, by omega, by go_num, HST.out.1, hup', hb.setCell (Nat.le_refl _) _⟩
      case measure => simp [intOf]; omega
    · have hxl := hown.1
      simp only [Nat.mul_one] at hxl
      have hkn : k = n := by omega
      have hx := Upto.full (xs := xs) (L := L) (by rw [← HL.out, ← hkn]; exact hup) (by rw [hxl, HL.out])
      subst hx
      go_wp2
      go_ret
      exact ⟨rfl, hown, hb⟩

theorem clone_any (ao : Option Addr) (n cap : Nat) (L : List Int) (w : World) (h : Rd w ao n cap L) (hn : n ≤ 32768) :
    Calls Try.prog 6 #[.slice ao n cap] w fun e w' => ∃ ao' cap', e = .returned (.slice ao' n cap') ∧ Own w.heap.size w' ao' n cap' L ∧ Below w.heap.size w w' := by
  cases ao with
  | some ad => exact (clone_some ad n cap L w h hn).mono fun e w' ⟨he, ho, hb⟩ => ⟨_, _, he, ho, hb⟩
  | none =>
    obtain ⟨rfl, rfl⟩ := h.nil rfl
    have hL : L = [] := List.eq_nil_of_length_eq_zero h.len.symm
    subst hL
    refine (clone_nil w).mono fun e w' ⟨he, hw⟩ => ?_
    subst hw
    exact ⟨none, 0, he, World.ownsRow_nil _ _ _ _, Below.refl _ _⟩

theorem ret_int {k : IntKind} {a b : Int} (h : a = b) : Ending.returned (.int k a) = .returned (.int k b) := by rw [h]

set_option maxRecDepth 100000 in
theorem zeros_any (ao : Option Addr) (n cap : Nat) (L : List Int) (w : World) (h : Rd w ao n cap L) (hn : n ≤ 32768) :
    Calls Try.prog 8 #[.slice ao n cap] w fun e w' => e = .returned (.int .i64 (cntZ L n)) ∧ w' = w := by
  have H : Hid (Rd w ao n cap L) := h
  clear h
  go_enter Try.func8, Try.ntmps8
  go_wp2
  go_loop [3, 4] (fun c i => ∃ k : Nat, k ≤ n ∧ i = .int .i64 k ∧ c = .int .i64 (cntZ L k)) (fun _ i => n - (intOf i).toNat)
  case atStart => exact ⟨0, Nat.zero_le _, rfl, rfl⟩
  case round =>
    obtain ⟨k, hk, rfl, rfl⟩ := hrel
    by_cases hlt : k < n
    · obtain ⟨b, off, rfl, hblk, hc⟩ := H.out.place (by omega)
      have hcell := hc k hlt
      have hle := cntZ_le L k
      obtain ⟨x, hx⟩ : ∃ x, x = L.getD k 0 := ⟨_, rfl⟩
      rw [← hx] at hcell
      have HZ : Hid (cntZ L (k + 1) = cntZ L k + if x = 0 then 1 else 0) := by
        show cntZ L (k + 1) = _
        rw [cntZ, hx]
      clear hc H hx
      by_cases hx0 : x = 0
      · have hb : (x == 0) = true := by simp [hx0]
        rw [if_pos hx0] at HZ
        clear hx0
        go_wp2
        go_round
        case rel => exact ⟨k + 1, by omega, by go_num, by rw [HZ.out]; go_num⟩
        case measure => simp [intOf]; omega
      · have hb : (x == 0) = false := by simp [hx0]
        rw [if_neg hx0] at HZ
        clear hx0
        go_wp2
        go_round
        case rel => exact ⟨k + 1, by omega, by go_num, by rw [HZ.out]; go_num⟩
        case measure => simp [intOf]; omega
    · obtain rfl : k = n := by omega
      go_wp2
      go_ret
      exact ⟨rfl, rfl⟩

set_option maxRecDepth 100000 in
theorem same_any (ao bo : Option Addr) (n ca cb : Nat) (L : List Int) (w : World) (ha : Rd w ao n ca L) (hb : Rd w bo n cb L) (hn : n ≤ 32768) :
    Calls Try.prog 10 #[.slice ao n ca, .slice bo n cb] w fun e w' => e = .returned (.bool true) ∧ ∃ m, w' = w.drewN m := by
  have Ha : Hid (Rd w ao n ca L) := ha
  have Hb : Hid (Rd w bo n cb L) := hb
  clear ha hb
  go_enter Try.func10, Try.ntmps10
  go_wp2
  go_loopw [5] (fun i wr => ∃ k m : Nat, k ≤ n ∧ i = .int .i64 k ∧ wr = w.drewN m) (fun i _ => n - (intOf i).toNat)
  case atStart => exact ⟨0, 0, Nat.zero_le _, rfl, rfl⟩
  case round =>
    obtain ⟨k, m, hk, rfl, rfl⟩ := hrel
    by_cases hlt : k < n
    · obtain ⟨b1, o1, rfl, hblk1, hc1⟩ := Ha.out.place (by omega)
      obtain ⟨b2, o2, rfl, hblk2, hc2⟩ := Hb.out.place (by omega)
      have hcell1 := hc1 k hlt
      have hcell2 := hc2 k hlt
      have hli : (k : Int) < (n : Int) := by omega
      clear hc1 hc2 Ha Hb
      go_wp2
      go_quiet (fail)
      go_wp2
      exact ⟨⟨k + 1, _, by omega, by go_num, rfl⟩, by simp [intOf]; omega⟩
    · go_wp2
      go_ret
      exact ⟨rfl, m, rfl⟩

/-- The two bounds on total length: a Bool, nothing turned. -/
theorem bytes9 (a0 a1 a2 a3 a4 : Option Addr) (n0 n1 n2 n3 n4 c0 c1 c2 c3 c4 : Nat) (h0 : n0 ≤ maxLen) (h1 : n1 ≤ maxLen) (h2 : n2 ≤ maxLen) (h3 : n3 ≤ maxLen) (h4 : n4 ≤ maxLen) (w : World) :
    Calls Try.prog 9 #[.slice a0 n0 c0, .slice a1 n1 c1, .slice a2 n2 c2, .slice a3 n3 c3, .slice a4 n4 c4] w fun e w' => (∃ t : Bool, e = .returned (.bool t)) ∧ w' = w := by
  unfold maxLen at h0 h1 h2 h3 h4
  go_enter Try.func9, Try.ntmps9
  go_wp2
  all_goals
    go_ret
    exact ⟨⟨_, rfl⟩, rfl⟩
theorem bytes5 (a0 a1 a2 a3 a4 : Option Addr) (n0 n1 n2 n3 n4 c0 c1 c2 c3 c4 : Nat) (k : Int) (h0 : n0 ≤ maxLen) (h1 : n1 ≤ maxLen) (h2 : n2 ≤ maxLen) (h3 : n3 ≤ maxLen) (h4 : n4 ≤ maxLen) (w : World) :
    Calls Try.prog 5 #[.slice a0 n0 c0, .slice a1 n1 c1, .slice a2 n2 c2, .slice a3 n3 c3, .slice a4 n4 c4, .int .i64 k] w fun e w' => (∃ t : Bool, e = .returned (.bool t)) ∧ w' = w := by
  unfold maxLen at h0 h1 h2 h3 h4
  go_enter Try.func5, Try.ntmps5
  go_wp2
  all_goals
    go_ret
    exact ⟨⟨_, rfl⟩, rfl⟩

end Go.Proofs.Qxb6632546a
