/-
  SEAT b6632442aD: FnProblemStringSplitsAtEveryCut: true; nothing that was there has turned.
-/
import Derived.Test.Qxb6632442aDoorWalk5
import Derived.Deep.Cut
namespace Go.Proofs.Qxb6632442aDoor
open Go Go.RowKit Txt

theorem Row.none {k : IntKind} {w : World} {ao : Option Addr} {n cap : Nat} {L : List Int} (h : Row k w ao n cap L) : ao = .none → n = 0 ∧ cap = 0 := by
  intro e
  obtain ⟨hn, ⟨_, hc, hL⟩ | ⟨g, e', _⟩⟩ := h
  · subst hL; exact ⟨by simpa using hn, hc⟩
  · rw [e] at e'; cases e'

theorem Row.cells {k : IntKind} {w : World} {ao : Option Addr} {n cap : Nat} {L : List Int} (h : Row k w ao n cap L) : ∀ ad, ao = some ad → ∀ j u, (L.map (Value.int k))[j]? = some u → w.cell? (ad.add j) = some u := by
  intro ad e j u hu
  obtain ⟨hn, ⟨e', _⟩ | ⟨g, e', hg, hc, h⟩⟩ := h
  · rw [e] at e'; cases e'
  · rw [e] at e'
    obtain rfl := Option.some.inj e'
    have hj : j < L.length := by
      have := (List.getElem?_eq_some_iff.1 hu).1
      simpa using this
    rw [Addr.add_lit, Nat.zero_add, h j (by omega)]
    rw [List.getElem?_map, List.getElem?_eq_getElem hj] at hu
    rw [List.getD, List.getElem?_eq_getElem hj]
    exact hu

theorem IsRow.len {k : IntKind} {w : World} {a : Option Addr} {len cap : Nat} {zs : List Int} (h : IsRow k w a len cap zs) : len ≤ 9223372036854775807 ∧ (zs.take len).length = len := by
  rcases h with ⟨_, rfl, _, rfl⟩ | ⟨x, _, h1, h2, h3, _⟩
  · simp
  · unfold maxLen at h2; simp; omega

/-- Too long: true at once. -/
theorem split_long (a b : Option Addr) (la ca lb cb : Nat) (w : World) (ha : la ≤ 9223372036854775807) (hb : lb ≤ 9223372036854775807) (hlong : 131072 < la + lb) :
    Calls Tryd.prog 4 #[.slice a la ca, .slice b lb cb] w fun e w' => e = .returned (.bool true) ∧ Below w.heap.size w w' := by
  rcases (show 131072 < la ∨ (la ≤ 131072 ∧ 131072 - (la : Int) < lb) from by omega) with h | ⟨h1, h2⟩
  all_goals
    go_enter Tryd.func4, Tryd.ntmps4
    go_wp2_with (go_at_call 8; refine (bytesSplit_any a b la ca lb cb (by unfold maxLen; omega) (by unfold maxLen; omega) _).mono ?_; rintro e w' ⟨⟨t, rfl⟩, hw⟩; obtain rfl := hw.symm; cases t)
    all_goals
      go_ret
      exact ⟨rfl, Below.refl _ _⟩

/-- WHAT THE LAW SAYS, WITHOUT Go. -/
theorem split_law (La Lb : List Int) (la lb : Nat) (Ta Tb S : List UInt8) (hla : La.length = la) (hlb : Lb.length = lb) (hFa : Fits La) (hFb : Fits Lb) (hTa : Ta = txt La) (hTb : Tb = txt Lb) (hS : S = txt (La ++ Lb)) (hlen : la + lb ≤ 131072) :
    (S.length ≤ 2883584 ∧ Ta.length ≤ 2883584 ∧ Tb.length ≤ 2883584) ∧ ((la = 0 ∧ lb = 0 → S = []) ∧ (0 < la + lb → cnt S + 1 = la + lb)) ∧ (2 * (la + lb) ≤ S.length + 1) ∧ (la = 0 → S = Tb) ∧ (lb = 0 → S = Ta) ∧ (0 < la → 0 < lb → S = Ta ++ 44 :: Tb) := by
  subst hla hlb hTa hTb hS
  have h1 := txt_length_le La hFa
  have h2 := txt_length_le Lb hFb
  have h3 := txt_length_le (La ++ Lb) (fun n hn => by rcases List.mem_append.1 hn with h | h; exact hFa n h; exact hFb n h)
  have h4 := txt_length_ge (La ++ Lb)
  rw [List.length_append] at h3 h4
  refine ⟨⟨by omega, by omega, by omega⟩, ⟨fun h => ?_, fun h => ?_⟩, h4, fun h => ?_, fun h => ?_, fun h h' => ?_⟩
  · rw [List.eq_nil_of_length_eq_zero h.1, List.eq_nil_of_length_eq_zero h.2]; rfl
  · cases e : La ++ Lb with
    | nil => have := congrArg List.length e; rw [List.length_append, List.length_nil] at this; omega
    | cons x l =>
      rw [cnt_txt]
      have := congrArg List.length e
      rw [List.length_append, List.length_cons] at this; omega
  · rw [List.eq_nil_of_length_eq_zero h, List.nil_append]
  · rw [List.eq_nil_of_length_eq_zero h, List.append_nil]
  · exact txt_append La Lb (by intro e; subst e; simp at h) (by intro e; subst e; simp at h')

set_option maxRecDepth 100000 in
set_option maxHeartbeats 4000000 in
theorem split_short (a b : Option Addr) (la ca lb cb : Nat) (za zb : List Int) (w : World) (htab : TabOk w) (ha : IsRow .i64 w a la ca za) (hb : IsRow .i64 w b lb cb zb) (hFa : Fits (za.take la)) (hFb : Fits (zb.take lb)) (hlen : la + lb ≤ 131072) :
    Calls Tryd.prog 4 #[.slice a la ca, .slice b lb cb] w fun e w' => e = .returned (.bool true) ∧ Below w.heap.size w w' := by
  have hnn := fun (w : World) a n c => run_neq_slice_nil_any (P := Tryd.prog) w 22 3 a n c 0 0 Tryd.underlying22
  obtain ⟨i0, hi, hz0, hz1, hz2⟩ := info_parts infoInt
  have hla := ha.len.2
  have hlb := hb.len.2
  obtain ⟨La, hLa⟩ : ∃ La, La = za.take la := ⟨_, rfl⟩
  obtain ⟨Lb, hLb⟩ : ∃ Lb, Lb = zb.take lb := ⟨_, rfl⟩
  have HLa : Hid (La = za.take la) := hLa
  have HLb : Hid (Lb = zb.take lb) := hLb
  have Hla : Hid (La.length = la) := by rw [hLa]; exact hla
  have Hlb : Hid (Lb.length = lb) := by rw [hLb]; exact hlb
  rw [← hLa] at hFa
  rw [← hLb] at hFb
  clear hLa hLb hla hlb
  have hT := Lib.tabBelow_of_tabIs htab
  have Ha : Hid (IsRow .i64 w a la ca za) := ha
  have Hb : Hid (IsRow .i64 w b lb cb zb) := hb
  clear ha hb htab
  go_enter Tryd.func4, Tryd.ntmps4
  go_upto_if 27 with (go_at_call 8; refine (bytesSplit_any a b la ca lb cb (by unfold maxLen; omega) (by unfold maxLen; omega) _).mono ?_; rintro e w' ⟨⟨t, rfl⟩, hw⟩; obtain rfl := hw.symm; cases t)
  · go_ret
    exact ⟨rfl, Below.refl _ _⟩
  · go_cut [0] from 13 (fun v wx => ∃ ao cx, v = .slice ao la cx ∧ Row .i64 wx ao la cx La ∧ Below w.heap.size w wx)
    case first =>
      rcases Ha.out with ⟨rfl, rfl, rfl, rfl⟩ | ⟨x, rfl, hlc, hm, hz, hc, -⟩
      · have hL0 : La = [] := by rw [HLa.out]; simp
        go_wp2
        go_meet
        case rel => exact ⟨_, _, rfl, ⟨by rw [hL0]; rfl, .inl ⟨rfl, rfl, hL0⟩⟩, Below.refl _ _⟩
      · unfold maxLen at hm
        go_wp2_with (at_make; refine wpList_make_full _ rfl _ _ 22 rfl w.heap.size 3 i0 (.int .i64 0) 1 Tryd.underlying22 hi hz0 hz1 _ _ _ _ la rfl rfl rfl rfl (by rw [hz2]; omega) (by unfold maxLen; omega) (Nat.le_refl _) ?_; intro w1 hown1 hgrow1; refine Hid.out ?_)
        refine Lib.hid ?_
        have hb1 : Below w.heap.size w w1 := (Below.refl _ _).grown hgrow1 (Nat.le_refl _) (by intro k hk; cases hk)
        obtain ⟨w2, hcp, hown2, hgrow2⟩ := copy_full (P := Tryd.prog) (c := ca) Tryd.underlying22 sizeInt hown1 x ((za.take la).map (Value.int .i64)) (by simp; omega) (src_of hlc hz hc hb1) (ints_oneCell _ _)
        rw [← HLa.out] at hown2
        have hR2 := row_of_own rfl hown2
        have hb2 : Below w.heap.size w w2 := hb1.grown hgrow2 hb1.size (by intro k hk; simp at hk; omega)
        clear hown1 hgrow1 hgrow2 hown2 hc
        go_wp2
        go_meet
        case rel => exact ⟨_, _, rfl, hR2, hb2⟩
    case rest =>
      obtain ⟨ao, cx, rfl, hRa, hbw⟩ := hcut
      go_upto_if 36 with fail
      go_cut [1] from 13 (fun v wx => ∃ bo cy, v = .slice bo lb cy ∧ Row .i64 wx bo lb cy Lb ∧ Row .i64 wx ao la cx La ∧ Below w.heap.size w wx)
      case first =>
        have hbs := hbw.size
        rcases Hb.out with ⟨rfl, rfl, rfl, rfl⟩ | ⟨x, rfl, hlc, hm, hz, hc, -⟩
        · have hL0 : Lb = [] := by rw [HLb.out]; simp
          go_wp2
          go_meet
          case rel => exact ⟨_, _, rfl, ⟨by rw [hL0]; rfl, .inl ⟨rfl, rfl, hL0⟩⟩, hRa, hbw⟩
        · unfold maxLen at hm
          go_wp2_with (at_make; refine wpList_make_full _ rfl _ _ 22 rfl wc.heap.size 3 i0 (.int .i64 0) 1 Tryd.underlying22 hi hz0 hz1 _ _ _ _ lb rfl rfl rfl rfl (by rw [hz2]; omega) (by unfold maxLen; omega) (Nat.le_refl _) ?_; intro w1 hown1 hgrow1; refine Hid.out ?_)
          refine Lib.hid ?_
          have hb1 : Below wc.heap.size wc w1 := (Below.refl _ _).grown hgrow1 (Nat.le_refl _) (by intro k hk; cases hk)
          obtain ⟨w2, hcp, hown2, hgrow2⟩ := copy_full (P := Tryd.prog) (c := cb) Tryd.underlying22 sizeInt hown1 x ((zb.take lb).map (Value.int .i64)) (by simp; omega) (src_of hlc hz hc (hbw.trans (hb1.mono hbs))) (ints_oneCell _ _)
          rw [← HLb.out] at hown2
          have hR2 := row_of_own rfl hown2
          have hb2 : Below wc.heap.size wc w2 := hb1.grown hgrow2 hb1.size (by intro k hk; simp at hk; omega)
          clear hown1 hgrow1 hgrow2 hown2 hc
          go_wp2
          go_meet
          case rel => exact ⟨_, _, rfl, hR2, hRa.on hb2, hbw.trans (hb2.mono hbs)⟩
      case rest =>
        clear hbw hRa Ha Hb HLa HLb
        obtain ⟨bo, cy, rfl, hRb, hRa, hbw⟩ := hcut
        have hs0 := hbw.size
        go_wp2_with (at_make; refine wpList_make_own _ rfl _ _ 22 rfl wc.heap.size 3 i0 (.int .i64 0) 1 Tryd.underlying22 hi hz0 hz1 _ _ _ (la + lb) rfl rfl (by omega) (by rw [hz2]; omega) (by unfold maxLen; omega) (Nat.le_refl _) ?_; intro w1 hown1 hgrow1; refine Hid.out ?_)
        refine Lib.hid ?_
        have hb1 : Below wc.heap.size wc w1 := (Below.refl _ _).grown hgrow1 (Nat.le_refl _) (by intro k hk; cases hk)
        have hRa1 := hRa.on hb1
        have hna := hRa.none
        have hca := hRa1.cells
        clear hgrow1
        go_wp2_with (at_builtin; refine wpList_append_fits_any _ rfl (.tmp 50) (.tmp 51) 22 rfl wc.heap.size 3 i0 1 Tryd.underlying22 hi hz1 wc.heap.size 0 (la + lb) [] rfl hown1 ao la cx (La.map (Value.int .i64)) rfl (by rw [List.length_map, Hla.out]; omega) hna hca (ints_oneCell _ _) (by omega) ?_; intro w2 hown2 hgrow2; refine Hid.out ?_)
        refine Lib.hid ?_
        have hb2 : Below wc.heap.size wc w2 := hb1.grown hgrow2 hb1.size (by intro k hk; simp at hk; omega)
        have hRb2 := hRb.on hb2
        have hnb := hRb.none
        have hcb := hRb2.cells
        rw [Nat.zero_add, List.nil_append] at hown2
        clear hgrow2 hown1 hRa1 hna hca hb1
        go_wp2_with (at_builtin; refine wpList_append_fits_any _ rfl (.tmp 53) (.tmp 54) 22 rfl wc.heap.size 3 i0 1 Tryd.underlying22 hi hz1 wc.heap.size la (la + lb) _ rfl hown2 bo lb cy (Lb.map (Value.int .i64)) rfl (by rw [List.length_map, Hlb.out]; omega) hnb hcb (ints_oneCell _ _) (by omega) ?_; intro w3 hown3 hgrow3; refine Hid.out ?_)
        refine Lib.hid ?_
        have hb3 : Below wc.heap.size wc w3 := hb2.grown hgrow3 hb2.size (by intro k hk; simp at hk; omega)
        rw [← List.map_append] at hown3
        have hRab3 := row_of_own rfl hown3
        have hRa3 := hRa.on hb3
        have hRb3 := hRb.on hb3
        have hT3 := hT.on (hbw.trans (hb3.mono hs0))
        have hs3 := hb3.size
        clear hgrow3 hown3 hown2 hRb2 hnb hcb hb2 hRa hRb
        go_wp2_with fail
        refine (string_row La hFa ao la cx w3 hT3.here (by omega) hRa3).mono ?_
        rintro e w4 ⟨he, hb4⟩
        obtain ⟨Ta, hTa⟩ : ∃ Ta, Ta = txt La := ⟨_, rfl⟩
        have HTa : Hid (Ta = txt La) := hTa
        rw [← hTa] at he
        subst he
        clear hTa
        have hRb4 := hRb3.on hb4
        have hRab4 := hRab3.on hb4
        have hT4 := hT3.on (hb4.mono (by omega))
        have hs4 := hb4.size
        clear hRa3 hRb3 hRab3
        go_wp2_with fail
        refine (string_row Lb hFb bo lb cy w4 hT4.here (by omega) hRb4).mono ?_
        rintro e w5 ⟨he, hb5⟩
        obtain ⟨Tb, hTb⟩ : ∃ Tb, Tb = txt Lb := ⟨_, rfl⟩
        have HTb : Hid (Tb = txt Lb) := hTb
        rw [← hTb] at he
        subst he
        clear hTb
        have hRab5 := hRab4.on hb5
        have hT5 := hT4.on (hb5.mono (by omega))
        have hs5 := hb5.size
        clear hRb4 hRab4
        have hFab : Fits (La ++ Lb) := fun n hn => by rcases List.mem_append.1 hn with h | h; exact hFa n h; exact hFb n h
        go_wp2_with fail
        refine (string_row (La ++ Lb) hFab _ (la + lb) (la + lb) w5 hT5.here (by omega) hRab5).mono ?_
        rintro e w6 ⟨he, hb6⟩
        obtain ⟨S, hS⟩ : ∃ S, S = txt (La ++ Lb) := ⟨_, rfl⟩
        have HS : Hid (S = txt (La ++ Lb)) := hS
        rw [← hS] at he
        subst he
        clear hS
        have hend : Below w.heap.size w w6 := hbw.trans ((hb3.mono hs0).trans ((hb4.mono (by omega)).trans ((hb5.mono (by omega)).trans (hb6.mono (by omega)))))
        clear hRab5 hT hT3 hT4 hT5 hbw hb3 hb4 hb5 hb6
        obtain ⟨hS1, hS2, hS3, hS4⟩ := split_law La Lb la lb Ta Tb S Hla.out Hlb.out hFa hFb HTa.out HTb.out HS.out hlen
        have hsz : (⟨S.toArray⟩ : ByteArray).size ≤ 140737488355328 := by show S.toArray.size ≤ _; simp; omega
        have HSZ := Lib.hid hsz
        clear hsz
        obtain ⟨hl1, hl2, hl3⟩ := hS1
        have hge : 2 * ((la : Int) + (lb : Int)) - 1 ≤ (S.length : Int) := by omega
        rcases (show la = 0 ∨ 0 < la from by omega) with h0 | h0
        · have hq : (S == Tb) = true := by rw [hS4.1 h0]; simp
          have ha0 : ((la : Int) == 0) = true := by simp [h0]
          rcases (show lb = 0 ∨ 0 < lb from by omega) with h1 | h1
          · have hab : ((la : Int) + (lb : Int) == 0) = true := by simp [h0, h1]
            have hl0 : ((S.length : Int) == 0) = true := by rw [hS2.1 ⟨h0, h1⟩]; rfl
            clear h0 h1 hS2 hS3 hS4
            go_wp2
            go_ret
            exact ⟨rfl, hend⟩
          · have hab : ((la : Int) + (lb : Int) == 0) = false := by simp; omega
            have hcn : ((cnt S : Int) == (la : Int) + (lb : Int) - 1) = true := by have := hS2.2 (by omega); simp; omega
            clear h0 h1 hS2 hS3 hS4
            go_wp2_with (go_at_call 9; refine (commas_any ⟨S.toArray⟩ _ HSZ.out).mono ?_; rintro e w' ⟨rfl, hw⟩; obtain rfl := hw.symm)
            go_ret
            exact ⟨rfl, hend⟩
        · have ha0 : ((la : Int) == 0) = false := by simp; omega
          have hab : ((la : Int) + (lb : Int) == 0) = false := by simp; omega
          have hcn : ((cnt S : Int) == (la : Int) + (lb : Int) - 1) = true := by have := hS2.2 (by omega); simp; omega
          rcases (show lb = 0 ∨ 0 < lb from by omega) with h1 | h1
          · have hq : (S == Ta) = true := by rw [hS4.2.1 h1]; simp
            have hb0 : ((lb : Int) == 0) = true := by simp [h1]
            clear h0 h1 hS2 hS3 hS4
            go_wp2_with (go_at_call 9; refine (commas_any ⟨S.toArray⟩ _ HSZ.out).mono ?_; rintro e w' ⟨rfl, hw⟩; obtain rfl := hw.symm)
            go_ret
            exact ⟨rfl, hend⟩
          · have hq : (S == Ta ++ 44 :: Tb) = true := by rw [hS4.2.2 h0 h1]; simp
            have hb0 : ((lb : Int) == 0) = false := by simp; omega
            have happ : ((⟨Ta.toArray⟩ : ByteArray) ++ (⟨#[44]⟩ : ByteArray) ++ (⟨Tb.toArray⟩ : ByteArray)) = ⟨(Ta ++ 44 :: Tb).toArray⟩ := by
              apply ByteArray.ext; simp
            clear h0 h1 hS2 hS3 hS4
            go_wp2_with (go_at_call 9; refine (commas_any ⟨S.toArray⟩ _ HSZ.out).mono ?_; rintro e w' ⟨rfl, hw⟩; obtain rfl := hw.symm)
            go_ret
            exact ⟨rfl, hend⟩

theorem split_walk (a b : Option Addr) (la ca lb cb : Nat) (za zb : List Int) (w : World) (htab : TabOk w) (ha : IsRow .i64 w a la ca za) (hb : IsRow .i64 w b lb cb zb) (hFa : Fits za) (hFb : Fits zb) :
    Calls Tryd.prog 4 #[.slice a la ca, .slice b lb cb] w fun e w' => e = .returned (.bool true) ∧ Below w.heap.size w w' := by
  rcases (show 131072 < la + lb ∨ la + lb ≤ 131072 from by omega) with h | h
  · exact split_long a b la ca lb cb w ha.len.1 hb.len.1 h
  · exact split_short a b la ca lb cb za zb w htab ha hb (fun n hn => hFa n (List.mem_of_mem_take hn)) (fun n hn => hFb n (List.mem_of_mem_take hn)) h

end Go.Proofs.Qxb6632442aDoor
