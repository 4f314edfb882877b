/-
  SEAT b6632442aD: (hierarchy.Problem).String: the text of the list.
-/
import Derived.Test.Qxb6632442aDoorWalk1
import Derived.Test.Qxb6632442aDoorTxt2
import Derived.Test.Qxb6632442aDoorShelf
import Derived.Lib.AppendIntMem
import Derived.Lib.ItoaLen
import Derived.Lib.Slices
import Derived.Lib.Hide
import Derived.Laws.IdiomStrings
import Derived.OwnWalk
import Derived.BigCall
import Derived.Outline
namespace Go.Proofs.Qxb6632442aDoor
open Go Go.RowKit Go.Shelf Txt

/-- The table's name, as the row lists it. -/
def tabName : String := match Rows.fnProblemStringDecodesBackExactlyRow.laid with
  | _ :: _ :: (n, _) :: _ => n
  | _ => "none"

/-- The table of the powers of ten reads as its initialiser lays it. -/
def TabOk (w : World) : Prop := Lib.TabIs Tryd.prog w tabName .u64 Lib.pow10Tab

theorem appendInt (B n : Nat) (i : Int) (h0 : -9223372036854775808 ≤ i) (h1 : i ≤ 9223372036854775807) (sv : Value) (xs : List Value) (w : World) (hown : w.ownsRow B 5 1 sv n xs) (hBw : B ≤ w.heap.size) (hlim : n + 21 ≤ 140737488355328)
    (htab : Lib.TabBelow Tryd.prog B w tabName .u64 Lib.pow10Tab) :
    Calls Tryd.prog 10 #[sv, .int .i64 i, .int .i64 10] w fun e w' => ∃ v', e = .returned v' ∧ w'.ownsRow B 5 1 v' (n + (Lib.itoa i).length) (xs ++ Lib.byteCells (Lib.itoa i)) ∧ Below B w w' :=
  (Any.strconv_AppendInt_10 Tryd.lays176 B n i h0 h1 sv xs w hown hBw hlim htab).mono (by rintro e w' ⟨v', he, ho, hb, _⟩; exact ⟨v', he, ho, hb⟩)

theorem infoByte : (Tryd.prog.info? 5).map (fun i => (i.zero, i.size, i.bytes)) = some (some (.int .u8 0), 1, 1) := by kernel_rfl

/-- The empty list, nil or not. -/
theorem string_nil (ao : Option Addr) (cap : Nat) (w : World) :
    Calls Tryd.prog 6 #[.slice ao 0 cap] w fun e w' => e = .returned (.string ⟨#[]⟩) ∧ Below w.heap.size w w' := by
  obtain ⟨i0, hi, hz0, hz1, hz2⟩ := info_parts infoByte
  go_enter Tryd.func6, Tryd.ntmps6
  go_wp2_with (at_make; refine wpList_make_own _ rfl _ _ 29 rfl w.heap.size 5 i0 (.int .u8 0) 1 Tryd.underlying29 hi hz0 hz1 _ _ _ 0 rfl rfl (by omega) (by omega) (by unfold maxLen; omega) (Nat.le_refl _) ?_; intro w1 hown1 hgrow1; refine Hid.out ?_)
  refine Lib.hid ?_
  have hb : Below w.heap.size w w1 := (Below.refl _ _).grown hgrow1 (Nat.le_refl _) (by intro k hk; cases hk)
  have hcv := run_convert_bytes_back (P := Tryd.prog) w1 29 9 5 ⟨w.heap.size, 0, none⟩ 0 [] Tryd.underlying29 Tryd.underlying5 Tryd.underlying9 (fun j hj => absurd hj (by simp))
  simp only [List.length_nil] at hcv
  go_wp2
  refine wp_loop_rounds 1 ?_
  rw [rounds_succ]
  go_wp2
  go_ret
  exact ⟨rfl, hb⟩

theorem own_conv {w : World} {B n n' : Nat} {v : Value} {xs xs' : List Value} (h : w.ownsRow B 5 1 v n xs) (hn : n = n') (hx : xs = xs') : w.ownsRow B 5 1 v n' xs' := by
  subst hn; subst hx; exact h

set_option maxRecDepth 100000 in
set_option maxHeartbeats 4000000 in
theorem string_any (L : List Int) (hF : Fits L) (b off cap : Nat) (w : World) (htab : TabOk w) (hne : 1 ≤ L.length) (hlen : L.length ≤ 131072)
    (hc : ∀ i, i < L.length → w.cell? ⟨b, off + i, none⟩ = some (.int .i64 (L.getD i 0))) :
    Calls Tryd.prog 6 #[.slice (some ⟨b, off, none⟩) L.length cap] w fun e w' => e = .returned (.string ⟨(txt L).toArray⟩) ∧ Below w.heap.size w w' := by
  obtain ⟨i0, hi, hz0, hz1, hz2⟩ := info_parts infoByte
  have hT := Lib.tabBelow_of_tabIs htab
  have hbl : b < w.heap.size := World.block_lt_of_cell? w _ (hc 0 (by omega))
  obtain ⟨n, hn⟩ : ∃ n, n = L.length := ⟨_, rfl⟩
  have HN : Hid (n = L.length) := hn
  rw [← hn] at hne hlen hc ⊢
  clear hn
  go_enter Tryd.func6, Tryd.ntmps6
  go_wp2_with (at_make; refine wpList_make_own _ rfl _ _ 29 rfl w.heap.size 5 i0 (.int .u8 0) 1 Tryd.underlying29 hi hz0 hz1 _ _ _ (4 * n) rfl rfl (by omega) (by rw [hz2]; omega) (by unfold maxLen; omega) (Nat.le_refl _) ?_; intro w1 hown1 hgrow1; refine Hid.out ?_)
  refine Lib.hid ?_
  have hb1 : Below w.heap.size w w1 := (Below.refl _ _).grown hgrow1 (Nat.le_refl _) (by intro k hk; cases hk)
  clear hgrow1
  go_wp2
  go_loopw [3, 12] (fun v i wr => ∃ k : Nat, k ≤ n ∧ i = .int .i64 k ∧ wr.ownsRow w.heap.size 5 1 v (txt (L.take k)).length (Lib.byteCells (txt (L.take k))) ∧ Below w.heap.size w wr) (fun _ i _ => n - (intOf i).toNat)
  case atStart => exact ⟨0, Nat.zero_le _, rfl, hown1, hb1⟩
  case round =>
    obtain ⟨k, hk, rfl, hown, hb⟩ := hrel
    clear hown1 hb1
    by_cases hlt : k < n
    · have hkL : k < L.length := by rw [← HN.out]; exact hlt
      have hx := hF L[k] (List.getElem_mem hkL)
      have hcx : wr.cell? ⟨b, off + k, none⟩ = some (.int .i64 L[k]) := by
        rw [hb.cell (p := ⟨b, off + k, none⟩) hbl, hc k hlt, List.getD, List.getElem?_eq_getElem hkL]; rfl
      have hsz := hb.size
      have hTr := hT.on hb
      have hts : Hid (txt (L.take (k + 1)) = txt (L.take k) ++ (sep k ++ Lib.itoa L[k])) := txt_take_succ L k hkL
      have htl := txt_length_le (L.take k) (fun m hm => hF m (List.mem_of_mem_take hm))
      rw [List.length_take, Nat.min_eq_left (by omega)] at htl
      clear hc hT htab
      obtain ⟨x, hxe⟩ : ∃ x, x = L[k] := ⟨_, rfl⟩
      rw [← hxe] at hx hcx hts
      clear hxe
      obtain ⟨t, hte⟩ : ∃ t, t = txt (L.take k) := ⟨_, rfl⟩
      rw [← hte] at hown hts htl
      have HTE : Hid (t = txt (L.take k)) := hte
      clear hte
      rcases (show k ≤ 0 ∨ 0 < k from by omega) with hk0 | hk0
      · have hse : sep k = [] := if_pos (by omega)
        rw [hse] at hts
        clear hse
        go_wp2_with (go_at_call 10; refine (appendInt w.heap.size _ x hx.1 hx.2 _ _ _ hown hsz (by omega) hTr).mono ?_; rintro e w2 ⟨v2, rfl, hown2, hb2⟩)
        go_roundw
        case rel => exact ⟨k + 1, by omega, by go_num, own_conv hown2 (by rw [hts.out]; simp) (by rw [hts.out]; simp [Lib.byteCells]), hb.trans hb2⟩
        case measure => simp [intOf]; omega
      · have hse : sep k = [44] := if_neg (by omega)
        rw [hse] at hts
        clear hse
        go_wp2_with (at_builtin; refine wpList_append_own _ rfl _ _ 29 rfl w.heap.size 5 i0 (.int .u8 0) 1 1 Tryd.underlying29 hi hz0 hz1 hz2 rfl (by decide) _ _ _ rfl (hown.alloc _) ⟨wr.heap.size, 0, none⟩ 1 1 [Value.int .u8 44] rfl rfl (by intro j u' hj; match j, hj with | 0, hj => simp at hj; subst hj; simp [Addr.add]) (by intro u' hu'; simp at hu'; subst hu'; rfl) (by unfold maxLen; omega) (by omega) (by simp; omega) ?_; intro v2 w2 hown2 hgrow _; refine Hid.out ?_)
        refine Lib.hid ?_
        have hb2 : Below w.heap.size w w2 := (hb.alloc hsz _).grown hgrow (by simp; omega) (fun k hk => (hown.lt k hk).1)
        have hb3 : Below w.heap.size wr w2 := ((Below.refl _ wr).alloc hsz _).grown hgrow (by simp; omega) (fun k hk => (hown.lt k hk).1)
        have hsz2 := hb2.size
        have hTr2 := hTr.on hb3
        clear hgrow hown hTr hb3
        go_wp2_with (go_at_call 10; refine (appendInt w.heap.size _ x hx.1 hx.2 _ _ _ hown2 hsz2 (by omega) hTr2).mono ?_; rintro e w3 ⟨v3, rfl, hown3, hb4⟩)
        go_roundw
        case rel => exact ⟨k + 1, by omega, by go_num, own_conv hown3 (by rw [hts.out]; simp; omega) (by rw [hts.out]; simp [Lib.byteCells]), hb2.trans hb4⟩
        case measure => simp [intOf]; omega
    · have hkn : L.take k = L := by rw [List.take_of_length_le (by rw [← HN.out]; omega)]
      rw [hkn] at hown
      have hpos : 1 ≤ (txt L).length := by have := txt_length_ge L; rw [← HN.out] at this; omega
      clear hkn hc hT htab
      obtain ⟨t, hte⟩ : ∃ t, t = txt L := ⟨_, rfl⟩
      rw [← hte] at hown hpos
      have HTE : Hid (t = txt L) := hte
      clear hte
      rcases hown.2 with ⟨-, h0⟩ | ⟨g, cap', cur, rfl, -, -, -, -, -, -⟩
      · omega
      · have hcv := run_convert_bytes_back (P := Tryd.prog) wr 29 9 5 ⟨g, 0, none⟩ cap' t Tryd.underlying29 Tryd.underlying5 Tryd.underlying9 (fun j hj => hown.cells (g := g) rfl j _ (by simp [Lib.byteCells, hj]))
        go_wp2
        go_ret
        rw [← HTE.out]
        exact ⟨rfl, hb⟩

end Go.Proofs.Qxb6632442aDoor
