/-
  SEAT b6632669a: FnKeysInSlotTwoSlotsPartition, the walk.
-/
import Derived.Test.Qxb6632669aExact
import Derived.Test.Qxb6632669aKeysNil
import Derived.Deep.CutRange
namespace Go.Proofs.Qxb6632669a
open Go Go.RowKit Go.Maps
open Go.Proofs (encStr)

def HasAll (D : DataW Unit) (L : List ByteArray) (j : Nat) : Prop := ∀ q, q < j → Maps.has D (.string (L.getD q ByteArray.empty).data.toList) = true
theorem HasAll.start (L : List ByteArray) (D : DataW Unit) : HasAll D L 0 := fun q hq => absurd hq (by omega)
theorem HasAll.old {D : DataW Unit} {L : List ByteArray} {j : Nat} (h : HasAll D L j) {S : ByteArray} (hS : S = L.getD j ByteArray.empty) (hh : Maps.has D (.string S.data.toList) = true) : HasAll D L (j + 1) := by
  intro q hq
  by_cases e : q = j
  · subst e; rw [← hS]; exact hh
  · exact h q (by omega)
theorem HasAll.new {D : DataW Unit} {L : List ByteArray} {j : Nat} (h : HasAll D L j) (hD : IsMap D) {S : ByteArray} (hS : S = L.getD j ByteArray.empty) (d : DataW Unit) : HasAll (D.put (.string S.data.toList) d) L (j + 1) := by
  have h1 : HasAll (D.put (.string S.data.toList) d) L j := by
    intro q hq
    by_cases e : (Lit.string (L.getD q ByteArray.empty).data.toList) = .string S.data.toList
    · rw [e]; exact has_put_same hD (keyLit _) d
    · rw [has_put_other e]; exact h q hq
  exact h1.old hS (has_put_same hD (keyLit _) d)

def Apart (D2 D1 : DataW Unit) : Prop := ∀ x, Maps.has D2 (.string x) = true → Maps.has D1 (.string x) = false
theorem Apart.start (D1 : DataW Unit) : Apart (.map []) D1 := fun _ h => by cases h
theorem Apart.new {D2 D1 : DataW Unit} (h : Apart D2 D1) {x : List UInt8} (hx : Maps.has D1 (.string x) = false) (d : DataW Unit) : Apart (D2.put (.string x) d) D1 := by
  intro y hy
  by_cases e : y = x
  · subst e; exact hx
  · rw [has_put_other (by simpa using e)] at hy; exact h y hy

theorem row_cell {w : World} {B g cap : Nat} {ss : List (List UInt8)} (hr : w.ownsRow B 9 1 (.slice (some ⟨g, 0, none⟩) ss.length cap) ss.length (ss.map encStr)) (i : Nat) (hi : i < ss.length) : w.cell? ⟨g, i, none⟩ = some (encStr (ss.getD i [])) := by
  rw [hr.cellAt i (by omega), List.getElem?_map, List.getD, List.getElem?_eq_getElem hi]; rfl

set_option maxRecDepth 100000 in
set_option maxHeartbeats 8000000 in
theorem two_any (ao : Option Addr) (n cap : Nat) (L : List ByteArray) (bo : Option Addr) (m mcap : Nat) (M : List ByteArray) (s l : Int) (w : World) (h : RdS w ao n cap L) (h' : RdS w bo m mcap M) :
    Calls Try.prog 4 #[.slice ao n cap, .slice bo m mcap, .int .i64 s, .int .i64 l] w fun e w' => e = .returned (.bool true) ∧ Below w.heap.size w w' := by
  have H : Hid (RdS w ao n cap L) := h
  have H' : Hid (RdS w bo m mcap M) := h'
  have hle := h.le
  have hmx : cap ≤ 9223372036854775807 := h.max
  have hle' := h'.le
  have hmx' : mcap ≤ 9223372036854775807 := h'.max
  have HB8 := Lib.hid (bytes8 ao n cap L bo m mcap M s l w h h')
  have hm24 := make24
  have hm25 := make25
  have hm32 := make32
  clear h h'
  by_cases hbig : 65536 < n
  · have d0 : decide ((65536 : Int) < (n : Int)) = true := by simp; omega
    go_enter Try.func4, Try.ntmps4
    go_wp2_with (go_at_call 8; refine HB8.out.mono ?_; rintro e w' ⟨⟨t, rfl⟩, hw⟩; obtain rfl := hw.symm)
    all_goals (go_ret; exact ⟨rfl, Below.refl _ _⟩)
  have d0 : decide ((65536 : Int) < (n : Int)) = false := by simp; omega
  by_cases hbig' : 65536 < m
  · have d1 : decide ((65536 : Int) < (m : Int)) = true := by simp; omega
    go_enter Try.func4, Try.ntmps4
    go_wp2_with (go_at_call 8; refine HB8.out.mono ?_; rintro e w' ⟨⟨t, rfl⟩, hw⟩; obtain rfl := hw.symm)
    all_goals (go_ret; exact ⟨rfl, Below.refl _ _⟩)
  have d1 : decide ((65536 : Int) < (m : Int)) = false := by simp; omega
  go_enter Try.func4, Try.ntmps4
  go_wp2_with (go_at_call 8; refine HB8.out.mono ?_; rintro e w' ⟨⟨t, rfl⟩, hw⟩; obtain rfl := hw.symm)
  · go_ret
    exact ⟨rfl, Below.refl _ _⟩
  · go_ret
    exact ⟨rfl, Below.refl _ _⟩
  clear HB8
  go_loop [9, 10] (fun z i => ∃ (k : Nat) (x : Int), k ≤ n ∧ i = .int .i64 k ∧ z = .int .i64 x) (fun _ i => n - (intOf i).toNat)
  case atStart => exact ⟨0, _, Nat.zero_le _, rfl, rfl⟩
  case round =>
    obtain ⟨k, x, hk, rfl, rfl⟩ := hrel
    by_cases hlt : k < n
    · obtain ⟨b, off, rfl, hblk, hc⟩ := H.out.place (by omega)
      have hcell := hc k hlt
      have hsz := H.out.at_sz k
      obtain ⟨S, hS⟩ : ∃ S, S = L.getD k ByteArray.empty := ⟨_, rfl⟩
      rw [← hS] at hcell hsz
      have hsz : S.size ≤ 9223372036854775807 := hsz
      clear hc H H' hS
      go_wp2
      all_goals first
        | (go_ret; first | exact Below.refl _ _ | exact ⟨rfl, Below.refl _ _⟩)
        | (go_round
           case rel => exact ⟨k + 1, _, by omega, by go_num, rfl⟩
           case measure => simp [intOf]; omega)
    obtain rfl : k = n := by omega
    go_wp2
    go_loop [9, 11] (fun z i => ∃ (k : Nat) (x : Int), k ≤ m ∧ i = .int .i64 k ∧ z = .int .i64 x) (fun _ i => m - (intOf i).toNat)
    case atStart => exact ⟨0, _, Nat.zero_le _, rfl, rfl⟩
    case round =>
      obtain ⟨k', x', hk', rfl, rfl⟩ := hrel
      by_cases hlt : k' < m
      · obtain ⟨b, off, rfl, hblk, hc⟩ := H'.out.place (by omega)
        have hcell := hc k' hlt
        have hsz := H'.out.at_sz k'
        obtain ⟨S, hS⟩ : ∃ S, S = M.getD k' ByteArray.empty := ⟨_, rfl⟩
        rw [← hS] at hcell hsz
        have hsz : S.size ≤ 9223372036854775807 := hsz
        clear hc H H' hS
        go_wp2
        all_goals first
          | (go_ret; first | exact Below.refl _ _ | exact ⟨rfl, Below.refl _ _⟩)
          | (go_round
             case rel => exact ⟨k' + 1, _, by omega, by go_num, rfl⟩
             case measure => simp [intOf]; omega)
      obtain rfl : k' = m := by omega
      by_cases hs0 : s < 0
      · go_wp2
        go_ret
        first | exact Below.refl _ _ | exact ⟨rfl, Below.refl _ _⟩
      by_cases hs1 : 16384 ≤ s
      · go_wp2
        go_ret
        first | exact Below.refl _ _ | exact ⟨rfl, Below.refl _ _⟩
      by_cases hl0 : l < 0
      · go_wp2
        go_ret
        first | exact Below.refl _ _ | exact ⟨rfl, Below.refl _ _⟩
      by_cases hl1 : 16384 ≤ l
      · go_wp2
        go_ret
        first | exact Below.refl _ _ | exact ⟨rfl, Below.refl _ _⟩
      by_cases hsl : s = l
      · subst hsl
        go_wp2
        go_ret
        first | exact Below.refl _ _ | exact ⟨rfl, Below.refl _ _⟩
      obtain ⟨sk, rfl⟩ : ∃ j : Nat, s = j := ⟨s.toNat, by omega⟩
      obtain ⟨lk, rfl⟩ : ∃ j : Nat, l = j := ⟨l.toNat, by omega⟩
      have hsk : sk < 16384 := by omega
      have hlk : lk < 16384 := by omega
      have hkl : sk ≠ lk := by omega
      have hbe : ((sk : Int) == (lk : Int)) = false := by simpa using hsl
      have e0 : decide ((sk : Int) < 0) = false := by simp
      have e1 : decide ((16384 : Int) ≤ (sk : Int)) = false := by simp; omega
      have e2 : decide ((lk : Int) < 0) = false := by simp
      have e3 : decide ((16384 : Int) ≤ (lk : Int)) = false := by simp; omega
      clear hsl
      go_wp2
      clear hbe e0 e1 e2 e3 hs0 hs1 hl0 hl1
      have hbn : k ≤ 65536 := by omega
      have hbm : k' ≤ 65536 := by omega
      go_loopw [15, 16] (fun cn i wr => ∃ (j : Nat) (D Dd : DataW Unit), j ≤ k ∧ i = .int .i64 j ∧ cn = .int .i64 (Maps.size D) ∧ wr.ownsMap Try.prog 9 unitElem w.heap.size j D ∧ wr.ownsMap Try.prog 9 unitElem (w.heap.size + 1) 0 (.map [] : DataW Unit) ∧ wr.ownsMap Try.prog 9 anyElem (w.heap.size + 2) j Dd ∧ HasAll D L j ∧ Below w.heap.size w wr ∧ w.heap.size + 3 ≤ wr.heap.size) (fun _ i _ => k - (intOf i).toNat)
      case atStart =>
        have o1 := World.ownsMap_made (H := Unit) (w.alloc (.map #[] 0)) Try.prog 9 unitElem
        have o2 := World.ownsMap_made (H := Unit) ((w.alloc (.map #[] 0)).alloc (.map #[] 0)) Try.prog 9 anyElem
        exact ⟨0, .map [], .map [], Nat.zero_le _, rfl, rfl, ((World.ownsMap_made _ _ _ _).alloc _).alloc _, by simpa using o1.alloc (.map #[] 0), by simpa using o2, HasAll.start _ _, (((Below.refl _ _).alloc (Nat.le_refl _) _).alloc (by simp) _).alloc (by simp; omega) _, by simp⟩
      case round =>
        obtain ⟨j, D, Dd, hj, rfl, rfl, hown, hownB, hownD, hall, hnx, hws⟩ := hrel
        have hsl := hown.size_le
        have HA := Lib.hid hall
        clear hall
        by_cases hlt : j < k
        · obtain ⟨b, off, rfl, hblk, hc⟩ := H.out.place (by omega)
          have hcell := (hnx.cell (p := ⟨b, off + j, none⟩) hblk).trans (hc j hlt)
          have hkey := key_str _ (H.out.at_sz j)
          obtain ⟨S, hS⟩ : ∃ S, S = L.getD j ByteArray.empty := ⟨_, rfl⟩
          rw [← hS] at hcell hkey
          have HS := Lib.hid hS
          clear hc H H' hS
          rcases hh : Maps.has D (.string S.data.toList) with _ | _
          · go_wp2_with (first
              | (at_lookup; refine wpList_lookup_own_unit _ rfl _ _ 24 rfl 9 26 law9 Try.underlying24 (zero26 _) w.heap.size j _ rfl hown _ _ rfl hkey ?_)
              | (at_mapUpdate; refine wpList_mapUpdate_own _ rfl _ _ _ 24 rfl 9 26 law9 Try.underlying24 (unitElem (H := Unit)) w.heap.size j _ rfl (hown.alloc _) (by unfold maxLen; omega) _ _ _ rfl rfl hkey _ [] unitElem_mk ?_; intro w1 hown1 hgrow1)
              | (at_mapUpdate; refine wpList_mapUpdate_own _ rfl _ _ _ 25 rfl 9 28 law9 Try.underlying25 anyElem (w.heap.size + 2) j _ rfl (((hownD.alloc (.cells #[] 26)).kept hgrow1 (by simp)).alloc _) (by unfold maxLen; omega) _ _ _ rfl rfl hkey _ [] rfl ?_; intro w2 hown2 hgrow2))
            have s1 := hgrow1.size
            have s2 := hgrow2.size
            simp at s1 s2
            go_roundw
            case rel =>
              refine ⟨j + 1, D.put (.string S.data.toList) (.agg []), _, by omega, by go_num, ?_, (hown1.alloc _).kept hgrow2 (by simp), (((hownB.alloc _).kept hgrow1 (by simp)).alloc _).kept hgrow2 (by simp), hown2, HA.out.new hown.isMap HS.out _, ?_, by omega⟩
              · rw [size_put (hown.tidy law9), hh]
                simp
              · exact ((((hnx.alloc hnx.size _).grown hgrow1 (by simp; omega) (fun j hj => by cases hj; exact Nat.le_refl _)).alloc (by omega) _).grown hgrow2 (by simp; omega) (fun j hj => by cases hj; omega))
            case measure => simp [intOf]; omega
          · go_wp2_with (at_lookup; refine wpList_lookup_own_unit _ rfl _ _ 24 rfl 9 26 law9 Try.underlying24 (zero26 _) w.heap.size j _ rfl hown _ _ rfl hkey ?_)
            go_roundw
            case rel => exact ⟨j + 1, D, Dd, by omega, by go_num, rfl, (hown.alloc _).mono (Nat.le_succ _), hownB.alloc _, (hownD.alloc _).mono (Nat.le_succ _), HA.out.old HS.out hh, hnx.alloc hnx.size _, by simp; omega⟩
            case measure => simp [intOf]; omega
        obtain rfl : j = k := by omega
        have HOA := Lib.hid hown
        have HOB := Lib.hid hownB
        have HOD := Lib.hid hownD
        have HNX := Lib.hid hnx
        clear hown hownB hownD hnx
        go_wp2
        go_loopw [20, 21] (fun cn i wr => ∃ (q : Nat) (D2 Dd : DataW Unit), q ≤ k' ∧ i = .int .i64 q ∧ cn = .int .i64 (Maps.size D2) ∧ wr.ownsMap Try.prog 9 unitElem w.heap.size j D ∧ wr.ownsMap Try.prog 9 unitElem (w.heap.size + 1) q D2 ∧ wr.ownsMap Try.prog 9 anyElem (w.heap.size + 2) (j + q) Dd ∧ HasAll D2 M q ∧ Apart D2 D ∧ Below w.heap.size w wr ∧ w.heap.size + 3 ≤ wr.heap.size) (fun _ i _ => k' - (intOf i).toNat)
        case atStart => exact ⟨0, .map [], Dd, Nat.zero_le _, rfl, rfl, HOA.out, HOB.out, HOD.out, HasAll.start _ _, Apart.start _, HNX.out, hws⟩
        case round =>
          clear HOA HOB HOD HNX
          obtain ⟨q, D2, Dd2, hq, rfl, rfl, hown, hownB, hownD, hall, hap, hnx, hws2⟩ := hrel
          have hsl2 := hownB.size_le
          have HA2 := Lib.hid hall
          have HAP := Lib.hid hap
          clear hall hap
          by_cases hlt : q < k'
          · obtain ⟨b, off, rfl, hblk, hc⟩ := H'.out.place (by omega)
            have hcell := (hnx.cell (p := ⟨b, off + q, none⟩) hblk).trans (hc q hlt)
            have hkey := key_str _ (H'.out.at_sz q)
            obtain ⟨S, hS⟩ : ∃ S, S = M.getD q ByteArray.empty := ⟨_, rfl⟩
            rw [← hS] at hcell hkey
            have HS := Lib.hid hS
            clear hc H H' hS
            rcases hh1 : Maps.has D (.string S.data.toList) with _ | _
            · rcases hh : Maps.has D2 (.string S.data.toList) with _ | _
              · go_wp2_with (first
                  | (at_lookup; refine wpList_lookup_own_unit _ rfl _ _ 24 rfl 9 26 law9 Try.underlying24 (zero26 _) w.heap.size j _ rfl hown _ _ rfl hkey ?_)
                  | (at_lookup; refine wpList_lookup_own_unit _ rfl _ _ 24 rfl 9 26 law9 Try.underlying24 (zero26 _) (w.heap.size + 1) q _ rfl (hownB.alloc _) _ _ rfl hkey ?_)
                  | (at_mapUpdate; refine wpList_mapUpdate_own _ rfl _ _ _ 24 rfl 9 26 law9 Try.underlying24 (unitElem (H := Unit)) (w.heap.size + 1) q _ rfl ((hownB.alloc _).alloc _) (by unfold maxLen; omega) _ _ _ rfl rfl hkey _ [] unitElem_mk ?_; intro w1 hown1 hgrow1)
                  | (at_mapUpdate; refine wpList_mapUpdate_own _ rfl _ _ _ 25 rfl 9 28 law9 Try.underlying25 anyElem (w.heap.size + 2) (j + q) _ rfl ((((hownD.alloc (.cells #[] 26)).alloc (.cells #[] 26)).kept hgrow1 (by simp)).alloc _) (by unfold maxLen; omega) _ _ _ rfl rfl hkey _ [] rfl ?_; intro w2 hown2 hgrow2))
                have s1 := hgrow1.size
                have s2 := hgrow2.size
                simp at s1 s2
                go_roundw
                case rel =>
                  refine ⟨q + 1, D2.put (.string S.data.toList) (.agg []), _, by omega, by go_num, ?_, ((((hown.alloc _).alloc _).kept hgrow1 (by simp)).alloc _).kept hgrow2 (by simp), (hown1.alloc _).kept hgrow2 (by simp), hown2, HA2.out.new hownB.isMap HS.out _, HAP.out.new hh1 _, ?_, by omega⟩
                  · rw [size_put (hownB.tidy law9), hh]
                    simp
                  · exact (((((hnx.alloc hnx.size _).alloc (by simp; omega) _).grown hgrow1 (by simp; omega) (fun j hj => by cases hj; omega)).alloc (by omega) _).grown hgrow2 (by simp; omega) (fun j hj => by cases hj; omega))
                case measure => simp [intOf]; omega
              · go_wp2_with (first
                  | (at_lookup; refine wpList_lookup_own_unit _ rfl _ _ 24 rfl 9 26 law9 Try.underlying24 (zero26 _) w.heap.size j _ rfl hown _ _ rfl hkey ?_)
                  | (at_lookup; refine wpList_lookup_own_unit _ rfl _ _ 24 rfl 9 26 law9 Try.underlying24 (zero26 _) (w.heap.size + 1) q _ rfl (hownB.alloc _) _ _ rfl hkey ?_))
                go_roundw
                case rel => exact ⟨q + 1, D2, Dd2, by omega, by go_num, rfl, (hown.alloc _).alloc _, ((hownB.alloc _).alloc _).mono (Nat.le_succ _), ((hownD.alloc _).alloc _).mono (by omega), HA2.out.old HS.out hh, HAP.out, (hnx.alloc hnx.size _).alloc (by simp; omega) _, by simp; omega⟩
                case measure => simp [intOf]; omega
            · go_wp2_with (at_lookup; refine wpList_lookup_own_unit _ rfl _ _ 24 rfl 9 26 law9 Try.underlying24 (zero26 _) w.heap.size j _ rfl hown _ _ rfl hkey ?_)
              go_ret
              have := hnx.alloc hnx.size (.cells #[] 26)
              first | exact this | exact ⟨rfl, this⟩
          obtain rfl : q = k' := by omega
          have HOA := Lib.hid hown
          have HOB := Lib.hid hownB
          have HNX := Lib.hid hnx
          clear hown hownB hownD hnx
          obtain ⟨a, ha⟩ : ∃ a : Nat, sk + 1 < 16384 ∧ a = sk + 1 ∨ 16384 ≤ sk + 1 ∧ a = 0 := by
            by_cases e : sk + 1 < 16384
            · exact ⟨_, .inl ⟨e, rfl⟩⟩
            · exact ⟨_, .inr ⟨by omega, rfl⟩⟩
          obtain ⟨tk, htk⟩ : ∃ tk : Nat, a ≠ lk ∧ tk = a ∨ a = lk ∧ (lk + 1 < 16384 ∧ tk = lk + 1 ∨ 16384 ≤ lk + 1 ∧ tk = 0) := by
            by_cases e : a = lk
            · by_cases e' : lk + 1 < 16384
              · exact ⟨_, .inr ⟨e, .inl ⟨e', rfl⟩⟩⟩
              · exact ⟨_, .inr ⟨e, .inr ⟨by omega, rfl⟩⟩⟩
            · exact ⟨_, .inl ⟨e, rfl⟩⟩
          have HT3 := Lib.hid (show tk < 16384 ∧ tk ≠ sk ∧ tk ≠ lk from by omega)
          have HAA := Lib.hid ha
          have HTT := Lib.hid htk
          have hal : a < 16384 := by omega
          clear ha htk
          obtain ⟨V0, rfl⟩ : ∃ V0 : World, V0 = wr := ⟨_, rfl⟩
          go_upto_if 190 with fail
          go_cut [27] from 189 to 190 (fun v wx => v = .int .i64 (a : Int) ∧ wx = V0)
          case first =>
            rcases HAA.out with ⟨e1, e2⟩ | ⟨e1, e2⟩
            · go_wp2
              go_meet
              case rel => exact ⟨by rw [e2]; simp, rfl⟩
            · go_wp2
              go_meet
              case rel => exact ⟨by rw [e2]; simp, rfl⟩
          case rest =>
            obtain ⟨rfl, hw⟩ := hcut
            subst hw
            obtain ⟨V0, rfl⟩ : ∃ V0 : World, V0 = wc := ⟨_, rfl⟩
            clear HAA
            go_upto_if 193 with fail
            go_cut [27] from 191 to 197 (fun v wx => v = .int .i64 (tk : Int) ∧ wx = V0)
            case first =>
              rcases HTT.out with ⟨e1, e2⟩ | ⟨e1, ⟨e2, e3⟩ | ⟨e2, e3⟩⟩
              · have hb : ((a : Int) == (lk : Int)) = false := by have h : ¬ (a : Int) = (lk : Int) := (by omega); simp only [beq_eq_false_iff_ne, ne_eq]; exact h
                clear e1
                go_wp2
                go_meet
                case rel => exact ⟨by rw [e2], rfl⟩
              · have hb : ((a : Int) == (lk : Int)) = true := by have h : (a : Int) = (lk : Int) := (by omega); rw [h]; exact beq_self_eq_true _
                clear e1
                go_wp2
                go_meet
                case rel => exact ⟨by rw [e3]; simp, rfl⟩
              · have hb : ((a : Int) == (lk : Int)) = true := by have h : (a : Int) = (lk : Int) := (by omega); rw [h]; exact beq_self_eq_true _
                clear e1
                go_wp2
                go_meet
                case rel => exact ⟨by rw [e3]; simp, rfl⟩
            case rest =>
              obtain ⟨rfl, hw⟩ := hcut
              subst hw
              obtain ⟨V0, rfl⟩ : ∃ V0 : World, V0 = wc := ⟨_, rfl⟩
              clear HTT
              obtain ⟨c, hc⟩ : ∃ c : Nat, c = j + q + 1 := ⟨_, rfl⟩
              have hcc : (j : Int) + (q : Int) + 1 = (c : Int) := by omega
              have hcb : c ≤ 9223372036854775807 := by omega
              have HC := Lib.hid hc
              clear hc
              go_wp2_with (first
                | (go_at_call 9; refine (new2_any (w.heap.size + 2) w.heap.size (w.heap.size + 1) sk lk hsk hlk hkl V0).mono ?_; rintro e w2 ⟨rfl, ⟨C, hS⟩, hb2, hs2⟩; have HST := Lib.hid hS; have HB2 := Lib.hid hb2; have HS2 := Lib.hid hs2; clear hS hb2 hs2)
                | (go_at_call 7; refine (keys_any V0.heap.size w.heap.size sk j c C _ D w2 HST.out hsk (by simp) (own_below HOA.out HB2.out (by omega)) (by omega) (by omega) hcb).mono ?_; rintro e w3 ⟨g1, c1, ss1, rfl, hg1, hr1, hb3⟩; have HG1 := Lib.hid hg1; have HR1 := Lib.hid hr1; have HB3 := Lib.hid hb3; clear hg1 hr1 hb3; refine Hid.out ?_))
              refine Lib.hid ?_
              have hz2 : w.heap.size + 4 ≤ w2.heap.size := by have := HS2.out; omega
              have hv2 : V0.heap.size < w2.heap.size := by have := HS2.out; omega
              have hz3 : w2.heap.size ≤ w3.heap.size := HB3.out.size
              have HST3 := Lib.hid (HST.out.on HB3.out hv2)
              clear HST HS2
              go_wp2_with (go_at_call 7; refine (keys_any V0.heap.size (w.heap.size + 1) lk q c C _ D2 w3 HST3.out hlk (by simp [hkl.symm]) (own_below (own_below HOB.out HB2.out (by omega)) HB3.out (by omega)) (by omega) (by omega) hcb).mono ?_; rintro e w4 ⟨g2, c2, ss2, rfl, hg2, hr2, hb4⟩; have HG2 := Lib.hid hg2; have HR2 := Lib.hid hr2; have HB4 := Lib.hid hb4; clear hg2 hr2 hb4; refine Hid.out ?_)
              refine Lib.hid ?_
              have hz4 : w3.heap.size ≤ w4.heap.size := HB4.out.size
              have HST4 := Lib.hid (HST3.out.on HB4.out (by omega))
              clear HST3
              go_wp2_with (go_at_call 7; refine (keys_nil V0.heap.size tk c C _ w4 HST4.out HT3.out.1 (by simp [HT3.out.2.1, HT3.out.2.2]) hcb).mono ?_; rintro e w5 ⟨g3, c3, rfl, hb5⟩; have HB5 := Lib.hid hb5; clear hb5; refine Hid.out ?_)
              refine Lib.hid ?_
              have hz5 : w4.heap.size ≤ w5.heap.size := HB5.out.size
              have hD5 : w5.ownsMap Try.prog 9 unitElem w.heap.size j D := own_below (own_below (own_below (own_below HOA.out HB2.out (by omega)) HB3.out (by omega)) HB4.out (by omega)) HB5.out (by omega)
              have hE5 : w5.ownsMap Try.prog 9 unitElem (w.heap.size + 1) q D2 := own_below (own_below (own_below (own_below HOB.out HB2.out (by omega)) HB3.out (by omega)) HB4.out (by omega)) HB5.out (by omega)
              have hgl1 := (HR1.out.lt g1 rfl).2
              have hgl2 := (HR2.out.lt g2 rfl).2
              have hc1 : ∀ i, i < ss1.length → w5.cell? ⟨g1, i, none⟩ = some (encStr (ss1.getD i [])) := fun i hi => (HB5.out.cell (p := ⟨g1, i, none⟩) (by show g1 < _; omega)).trans ((HB4.out.cell (p := ⟨g1, i, none⟩) hgl1).trans (row_cell HR1.out i hi))
              have hc2 : ∀ i, i < ss2.length → w5.cell? ⟨g2, i, none⟩ = some (encStr (ss2.getD i [])) := fun i hi => (HB5.out.cell (p := ⟨g2, i, none⟩) hgl2).trans (row_cell HR2.out i hi)
              have HC1 := Lib.hid hc1
              have HC2 := Lib.hid hc2
              have HBEL := Lib.hid (show Below w.heap.size w w5 from (((HNX.out.trans (HB2.out.mono (by omega))).trans (HB3.out.mono (by omega))).trans (HB4.out.mono (by omega))).trans (HB5.out.mono (by omega)))
              have l1 : Maps.size D = ss1.length := by have := HG1.out.len; have := HC.out; omega
              have l2 : Maps.size D2 = ss2.length := by have := HG2.out.len; have := HC.out; omega
              have HALL1 := Lib.hid (HG1.out.all (by have := HC.out; omega))
              have HALL2 := Lib.hid (HG2.out.all (by have := HC.out; omega))
              have n1 : ((ss1.length : Int) != (Maps.size D : Int)) = false := by rw [l1]; simp
              have n2 : ((ss2.length : Int) != (Maps.size D2 : Int)) = false := by rw [l2]; simp
              have hb1 : ss1.length ≤ 65536 := by omega
              have hb2 : ss2.length ≤ 65536 := by omega
              have hg1 : g1 < w5.heap.size := by omega
              have hg2 : g2 < w5.heap.size := by omega
              have hw5 : w.heap.size + 1 < w5.heap.size := by omega
              clear hgl1 hgl2 hc1 hc2 HR1 HR2 HB2 HB3 HB4 HB5 HST4 HT3 HOA HOB HNX hz2 hv2 hz3 hz4 hz5 HC l1 l2
              go_wp2
              clear n1 n2
              go_loopw [34] (fun i wr => ∃ (p : Nat) (E : DataW Unit), p ≤ ss1.length ∧ i = .int .i64 p ∧ wr.ownsMap Try.prog 9 (plainElem Try.prog 4) w5.heap.size p E ∧ SeenAt E (ss1.take p) ∧ Below w5.heap.size w5 wr) (fun i _ => ss1.length - (intOf i).toNat)
              case atStart => exact ⟨0, .map [], Nat.zero_le _, rfl, World.ownsMap_made _ _ _ _, SeenAt.start, (Below.refl _ _).alloc (Nat.le_refl _) _⟩
              case round =>
                obtain ⟨p, E, hp, rfl, hE, hseen, hnx⟩ := hrel
                by_cases hlt : p < ss1.length
                · have hcell : wr.cell? ⟨g1, p, none⟩ = some (encStr (ss1.getD p [])) := (hnx.cell (p := ⟨g1, p, none⟩) hg1).trans (HC1.out p hlt)
                  have hhas := HG1.out.mem _ (mem_at ss1 p hlt)
                  have hkey := key_enc _ (has_sz hD5 hhas)
                  have hat := (hseen (ss1.getD p [])).trans (by rw [fresh_at ss1 HG1.out.nodup p hlt])
                  have htk := Lib.hid (take_next [] ss1 p hlt)
                  have hDr := own_below hD5 hnx (by omega)
                  obtain ⟨X, hX⟩ : ∃ X, X = ss1.getD p [] := ⟨_, rfl⟩
                  rw [← hX] at hcell hhas hkey hat htk
                  clear hX
                  have HSE := Lib.hid hseen
                  clear hseen
                  go_wp2_with (first
                    | (at_lookup; refine wpList_lookup_own_unit _ rfl _ _ 24 rfl 9 26 law9 Try.underlying24 (zero26 _) w.heap.size j _ rfl hDr _ _ rfl hkey ?_)
                    | (at_lookup; refine wpList_lookup_own_bool _ rfl _ _ rfl w5.heap.size p E rfl (hE.alloc _) _ _ rfl hkey false hat ?_)
                    | (at_mapUpdate; refine wpList_mapUpdate_own _ rfl _ _ _ 32 rfl 9 4 law9 Try.underlying32 (plainElem (H := Unit) Try.prog 4) w5.heap.size p E rfl (hE.alloc _) (by unfold maxLen; omega) _ _ _ rfl rfl hkey _ [] (plainElem_bool Try.underlying4 true) ?_; intro w6 hE6 hgrow6))
                  go_roundw
                  case rel => exact ⟨p + 1, _, by omega, by go_num, hE6, by rw [htk.out]; exact HSE.out.step hE.isMap X, (hnx.alloc hnx.size _).grown hgrow6 (by have := hnx.size; simp; omega) (fun j hj => by cases hj; exact Nat.le_refl _)⟩
                  case measure => simp [intOf]; omega
                obtain rfl : p = ss1.length := by omega
                rw [List.take_length] at hseen
                have HE := Lib.hid hE
                have HSE := Lib.hid hseen
                have HN := Lib.hid hnx
                clear hE hseen hnx
                go_wp2
                go_loopw [38] (fun i wr => ∃ (p : Nat) (E : DataW Unit), p ≤ ss2.length ∧ i = .int .i64 p ∧ wr.ownsMap Try.prog 9 (plainElem Try.prog 4) w5.heap.size (ss1.length + p) E ∧ SeenAt E (ss1 ++ ss2.take p) ∧ Below w5.heap.size w5 wr) (fun i _ => ss2.length - (intOf i).toNat)
                case atStart => exact ⟨0, E, Nat.zero_le _, rfl, HE.out, by simpa using HSE.out, HN.out⟩
                case round =>
                  clear HE HSE HN
                  obtain ⟨p, E, hp2, rfl, hE, hseen, hnx⟩ := hrel
                  by_cases hlt : p < ss2.length
                  · have hcell : wr.cell? ⟨g2, p, none⟩ = some (encStr (ss2.getD p [])) := (hnx.cell (p := ⟨g2, p, none⟩) hg2).trans (HC2.out p hlt)
                    have hhas := HG2.out.mem _ (mem_at ss2 p hlt)
                    have hkey := key_enc _ (has_sz hE5 hhas)
                    have hfr : decide (ss2.getD p [] ∈ ss1 ++ ss2.take p) = false := by
                      have h1 := HAP.out _ hhas
                      have h2 := fresh_at ss2 HG2.out.nodup p hlt
                      rw [decide_eq_false_iff_not] at h2 ⊢
                      intro hm
                      rcases List.mem_append.1 hm with hm | hm
                      · rw [HG1.out.mem _ hm] at h1; cases h1
                      · exact h2 hm
                    have hat := (hseen (ss2.getD p [])).trans (by rw [hfr])
                    have htk := Lib.hid (take_next [] ss2 p hlt)
                    have hDr := own_below hE5 hnx (by omega)
                    obtain ⟨X, hX⟩ : ∃ X, X = ss2.getD p [] := ⟨_, rfl⟩
                    rw [← hX] at hcell hhas hkey hat htk
                    clear hX hfr
                    have HSE := Lib.hid hseen
                    clear hseen
                    go_wp2_with (first
                      | (at_lookup; refine wpList_lookup_own_unit _ rfl _ _ 24 rfl 9 26 law9 Try.underlying24 (zero26 _) (w.heap.size + 1) q _ rfl hDr _ _ rfl hkey ?_)
                      | (at_lookup; refine wpList_lookup_own_bool _ rfl _ _ rfl w5.heap.size (ss1.length + p) E rfl (hE.alloc _) _ _ rfl hkey false hat ?_)
                      | (at_mapUpdate; refine wpList_mapUpdate_own _ rfl _ _ _ 32 rfl 9 4 law9 Try.underlying32 (plainElem (H := Unit) Try.prog 4) w5.heap.size (ss1.length + p) E rfl (hE.alloc _) (by unfold maxLen; omega) _ _ _ rfl rfl hkey _ [] (plainElem_bool Try.underlying4 true) ?_; intro w6 hE6 hgrow6))
                    go_roundw
                    case rel => exact ⟨p + 1, _, by omega, by go_num, hE6, by rw [htk.out, ← List.append_assoc]; exact HSE.out.step hE.isMap X, (hnx.alloc hnx.size _).grown hgrow6 (by have := hnx.size; simp; omega) (fun j hj => by cases hj; exact Nat.le_refl _)⟩
                    case measure => simp [intOf]; omega
                  obtain rfl : p = ss2.length := by omega
                  rw [List.take_length] at hseen
                  have HSE := Lib.hid hseen
                  have HRA := Lib.hid (H.out.on (HBEL.out.trans (hnx.mono (by omega))))
                  have HRB := Lib.hid (H'.out.on (HBEL.out.trans (hnx.mono (by omega))))
                  have HFIN := Lib.hid (HBEL.out.trans (hnx.mono (by omega)))
                  clear hseen hnx H H' HBEL hD5 hE5 HC1 HC2 HAP
                  obtain ⟨V1, rfl⟩ : ∃ V1 : World, V1 = wr := ⟨_, rfl⟩
                  go_wp2
                  go_loop [42] (fun i => ∃ p : Nat, p ≤ j ∧ i = .int .i64 p) (fun i => j - (intOf i).toNat)
                  case atStart => exact ⟨0, Nat.zero_le _, rfl⟩
                  case round =>
                    obtain ⟨p, hp3, rfl⟩ := hrel
                    by_cases hlt : p < j
                    · obtain ⟨b, off, rfl, hblk, hc⟩ := HRA.out.place (by omega)
                      have hcell := hc p hlt
                      have hkey := key_str _ (HRA.out.at_sz p)
                      have hin := HALL1.out _ (HA.out p hlt)
                      obtain ⟨S, hS⟩ : ∃ S, S = L.getD p ByteArray.empty := ⟨_, rfl⟩
                      rw [← hS] at hcell hkey hin
                      have hat := (HSE.out S.data.toList).trans (by rw [show decide (S.data.toList ∈ ss1 ++ ss2) = true from by simp [hin]])
                      clear hc hS hin HRA HRB
                      go_wp2_with (at_lookup; refine wpList_lookup_own_bool _ rfl _ _ rfl w5.heap.size (ss1.length + ss2.length) E rfl hE _ _ rfl hkey true hat ?_)
                      go_round
                      case rel => exact ⟨p + 1, by omega, by go_num⟩
                      case measure => simp [intOf]; omega
                    obtain rfl : p = j := by omega
                    go_wp2
                    go_loop [43] (fun i => ∃ p : Nat, p ≤ q ∧ i = .int .i64 p) (fun i => q - (intOf i).toNat)
                    case atStart => exact ⟨0, Nat.zero_le _, rfl⟩
                    case round =>
                      obtain ⟨p', hp4, rfl⟩ := hrel
                      by_cases hlt : p' < q
                      · obtain ⟨b, off, rfl, hblk, hc⟩ := HRB.out.place (by omega)
                        have hcell := hc p' hlt
                        have hkey := key_str _ (HRB.out.at_sz p')
                        have hin := HALL2.out _ (HA2.out p' hlt)
                        obtain ⟨S, hS⟩ : ∃ S, S = M.getD p' ByteArray.empty := ⟨_, rfl⟩
                        rw [← hS] at hcell hkey hin
                        have hat := (HSE.out S.data.toList).trans (by rw [show decide (S.data.toList ∈ ss1 ++ ss2) = true from by simp [hin]])
                        clear hc hS hin HRA HRB
                        go_wp2_with (at_lookup; refine wpList_lookup_own_bool _ rfl _ _ rfl w5.heap.size (ss1.length + ss2.length) E rfl hE _ _ rfl hkey true hat ?_)
                        go_round
                        case rel => exact ⟨p' + 1, by omega, by go_num⟩
                        case measure => simp [intOf]; omega
                      obtain rfl : p' = q := by omega
                      go_wp2
                      go_ret
                      have := HFIN.out
                      first | exact this | exact ⟨rfl, this⟩

end Go.Proofs.Qxb6632669a
