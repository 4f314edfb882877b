/-
  SEAT b6632442aD: FnProblemStringDecodesBackExactly: true; nothing that was there has turned.
-/
import Derived.Test.Qxb6632442aDoorWalk3
import Derived.Test.Qxb6632442aDoorWalk4
import Derived.Test.Qxb6632442aDoorRowy
namespace Go.Proofs.Qxb6632442aDoor
open Go Go.RowKit Txt

theorem string_row (L : List Int) (hF : Fits L) (ao : Option Addr) (n cap : Nat) (w : World) (htab : TabOk w) (hlen : n ≤ 131072) (hR : Row .i64 w ao n cap L) :
    Calls Tryd.prog 6 #[.slice ao n cap] w fun e w' => e = .returned (.string ⟨(txt L).toArray⟩) ∧ Below w.heap.size w w' := by
  obtain ⟨rfl, ⟨rfl, rfl, rfl⟩ | ⟨g, rfl, hg, rfl, h⟩⟩ := hR
  · exact string_nil none 0 w
  · cases L with
    | nil => exact string_nil _ _ w
    | cons x xs => exact string_any (x :: xs) hF g 0 _ w htab (by simp) hlen (fun i hi => by rw [Nat.zero_add]; exact h i hi)

theorem decodes_row (L : List Int) (hF : Fits L) (ao : Option Addr) (n cap : Nat) (w : World) (hlen : n ≤ 131072) (hR : Row .i64 w ao n cap L) :
    Calls Tryd.prog 7 #[.string ⟨(txt L).toArray⟩, .slice ao n cap] w fun e w' => e = .returned (.bool true) ∧ w' = w := by
  obtain ⟨rfl, ⟨rfl, rfl, rfl⟩ | ⟨g, rfl, hg, rfl, h⟩⟩ := hR
  · exact decodes_nil none 0 w
  · cases L with
    | nil => exact decodes_nil _ _ w
    | cons x xs => exact decodes_any (x :: xs) ⟨(txt (x :: xs)).toArray⟩ rfl hF g 0 _ w (by simp) hlen (fun i hi => by rw [Nat.zero_add]; exact h i hi)

theorem infoInt : (Tryd.prog.info? 3).map (fun i => (i.zero, i.size, i.bytes)) = some (some (.int .i64 0), 1, 8) := by kernel_rfl
theorem sizeInt : (Tryd.prog.info? 3).map (·.size) = some 1 := by kernel_rfl

/-- nil. -/
theorem dec_walk_nil (w : World) (htab : TabOk w) : Calls Tryd.prog 3 #[.slice none 0 0] w fun e w' => e = .returned (.bool true) ∧ Below w.heap.size w w' := by
  have hnn := fun (w : World) a n c => run_neq_slice_nil_any (P := Tryd.prog) w 22 3 a n c 0 0 Tryd.underlying22
  have hR : Row .i64 w none 0 0 [] := ⟨rfl, .inl ⟨rfl, rfl, rfl⟩⟩
  have hF : Fits [] := fun _ h => by cases h
  go_enter Tryd.func3, Tryd.ntmps3
  go_wp2_with (go_at_call 5; refine (bytesDec_any none 0 0 (by unfold maxLen; omega) _).mono ?_; rintro e w' ⟨⟨t, rfl⟩, hw⟩; obtain rfl := hw.symm; cases t)
  · go_ret
    exact ⟨rfl, Below.refl _ _⟩
  · refine (string_row [] hF none 0 0 _ htab (by omega) hR).mono ?_
    rintro e w1 ⟨rfl, hb1⟩
    have hR1 := hR.on hb1
    go_wp2_with (go_at_call 7; refine (decodes_row [] hF none 0 0 _ (by omega) hR1).mono ?_; rintro e w' ⟨rfl, rfl⟩)
    go_ret
    exact ⟨rfl, hb1⟩

/-- Not nil. -/
theorem dec_walk_some (x : Addr) (len cap : Nat) (zs : List Int) (w : World) (htab : TabOk w) (hlc : len ≤ cap) (hm : cap ≤ maxLen) (hz : zs.length = cap)
    (hc : ∀ i, i < zs.length → w.cell? (x.add i) = some (.int .i64 (zs.getD i 0))) (hF : Fits (zs.take len)) :
    Calls Tryd.prog 3 #[.slice (some x) len cap] w fun e w' => e = .returned (.bool true) ∧ Below w.heap.size w w' := by
  have hnn := fun (w : World) a n c => run_neq_slice_nil_any (P := Tryd.prog) w 22 3 a n c 0 0 Tryd.underlying22
  obtain ⟨i0, hi, hz0, hz1, hz2⟩ := info_parts infoInt
  unfold maxLen at hm
  rcases (show 131072 < len ∨ len ≤ 131072 from by omega) with hlen | hlen
  · go_enter Tryd.func3, Tryd.ntmps3
    go_wp2_with (go_at_call 5; refine (bytesDec_any (some x) len cap (by unfold maxLen; omega) _).mono ?_; rintro e w' ⟨⟨t, rfl⟩, hw⟩; obtain rfl := hw.symm; cases t)
    all_goals
      go_ret
      exact ⟨rfl, Below.refl _ _⟩
  · go_enter Tryd.func3, Tryd.ntmps3
    go_wp2_with (first | (go_at_call 5; refine (bytesDec_any (some x) len cap (by unfold maxLen; omega) _).mono ?_; rintro e w' ⟨⟨t, rfl⟩, hw⟩; obtain rfl := hw.symm; cases t) | (at_make; refine wpList_make_full _ rfl _ _ 22 rfl w.heap.size 3 i0 (.int .i64 0) 1 Tryd.underlying22 hi hz0 hz1 _ _ _ _ len rfl rfl rfl rfl (by rw [hz2]; omega) (by unfold maxLen; omega) (Nat.le_refl _) ?_; intro w1 hown1 hgrow1; refine Hid.out ?_))
    · go_ret
      exact ⟨rfl, Below.refl _ _⟩
    · refine Lib.hid ?_
      have hb1 : Below w.heap.size w w1 := (Below.refl _ _).grown hgrow1 (Nat.le_refl _) (by intro k hk; cases hk)
      obtain ⟨w2, hcp, hown2, hgrow2⟩ := copy_full (P := Tryd.prog) (c := cap) Tryd.underlying22 sizeInt hown1 x ((zs.take len).map (Value.int .i64)) (by simp; omega) (src_of hlc hz hc hb1) (ints_oneCell _ _)
      have hR2 := row_of_own rfl hown2
      have hb2 : Below w.heap.size w w2 := hb1.grown hgrow2 hb1.size (by intro k hk; simp at hk; omega)
      have ht2 : TabOk w2 := Lib.tabBelow_of_tabIs htab _ hb2
      clear hown1 hgrow1 hgrow2 hown2 hc htab
      go_wp2_with (go_at_call 6; refine (string_row (zs.take len) hF _ _ _ _ ht2 hlen hR2).mono ?_; rintro e w3 ⟨rfl, hb3⟩; refine Hid.out ?_)
      refine Lib.hid ?_
      have hR3 := hR2.on hb3
      have hb4 : Below w.heap.size w w3 := hb2.trans (hb3.mono hb2.size)
      go_wp2_with (go_at_call 7; refine (decodes_row (zs.take len) hF _ _ _ _ hlen hR3).mono ?_; rintro e w' ⟨rfl, rfl⟩)
      go_ret
      exact ⟨rfl, hb4⟩

theorem dec_walk (a : Option Addr) (len cap : Nat) (zs : List Int) (w : World) (htab : TabOk w) (h : IsRow .i64 w a len cap zs) (hF : Fits zs) :
    Calls Tryd.prog 3 #[.slice a len cap] w fun e w' => e = .returned (.bool true) ∧ Below w.heap.size w w' := by
  rcases h with ⟨rfl, rfl, rfl, rfl⟩ | ⟨x, rfl, hlc, hm, hz, hc, -⟩
  · exact dec_walk_nil w htab
  · exact dec_walk_some x len cap zs w htab hlc hm hz hc (fun n hn => hF n (List.mem_of_mem_take hn))

end Go.Proofs.Qxb6632442aDoor
