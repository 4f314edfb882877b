/-
  SEAT b6632669a: FnKeysInSlotExactSubset, the walk.
-/
import Derived.Test.Qxb6632669aTools
namespace Go.Proofs.Qxb6632669a
open Go Go.RowKit Go.Maps
open Go.Proofs (encStr)

theorem has_sz {H : Type} {w : World} {b n : Nat} {D : DataW H} {R : Value → Option (DataW H × List MemPlace)} (hown : w.ownsMap Try.prog 9 R b n D) {x : List UInt8} (h : Maps.has D (.string x) = true) : x.length ≤ maxLen := by
  have hk := strKeys_le hown Try.underlying9
  obtain ⟨es, rfl, _⟩ := hown.entries law9
  have h : es.any (fun p => p.1.sameKey (.string x)) = true := h
  obtain ⟨p, hp, hs⟩ := List.any_eq_true.1 h
  have e := (WideAt.sameKey_iff (keyLit x)).1 hs
  exact hk x (List.mem_map.2 ⟨p, hp, by rw [e]; rfl⟩)
theorem key_enc (x : List UInt8) (h : x.length ≤ maxLen) : keyOf Try.prog 9 (encStr x) = some (.string x) := by
  have := key_str ⟨x.toArray⟩ (by simpa [ByteArray.size] using h)
  simpa [encStr] using this
theorem take_next {α : Type} (d : α) (ss : List α) (q : Nat) (h : q < ss.length) : ss.take (q + 1) = ss.take q ++ [ss.getD q d] := by
  rw [List.take_add_one, List.getD, List.getElem?_eq_getElem h]; rfl
theorem fresh_at (ss : List (List UInt8)) (hn : ss.Nodup) (q : Nat) (h : q < ss.length) : decide (ss.getD q [] ∈ ss.take q) = false := by
  rw [decide_eq_false_iff_not]
  intro hm
  have e : ss.getD q [] = ss[q] := by rw [List.getD, List.getElem?_eq_getElem h]; rfl
  rw [e] at hm
  obtain ⟨i, hi, ei⟩ := List.getElem_of_mem hm
  rw [List.length_take] at hi
  rw [List.getElem_take] at ei
  exact List.pairwise_iff_getElem.1 hn i q (by omega) h (by omega) ei
theorem mem_at (ss : List (List UInt8)) (q : Nat) (h : q < ss.length) : ss.getD q [] ∈ ss := by
  rw [List.getD, List.getElem?_eq_getElem h]; exact List.getElem_mem h

/-- The data map's elements are read as nothing. -/
def anyElem : Value → Option (DataW Unit × List MemPlace) := fun _ => some (.nil, [])

set_option maxRecDepth 100000 in
set_option maxHeartbeats 4000000 in
theorem exact_any (ao : Option Addr) (n cap : Nat) (L : List ByteArray) (s c : Int) (w : World) (h : RdS w ao n cap L) (hcm : c ≤ 9223372036854775807) :
    Calls Try.prog 3 #[.slice ao n cap, .int .i64 s, .int .i64 c] w fun e w' => e = .returned (.bool true) ∧ Below w.heap.size w w' := by
  have H : Hid (RdS w ao n cap L) := h
  have hle := h.le
  have hmx : cap ≤ 9223372036854775807 := h.max
  have HB5 := Lib.hid (bytes5 ao n cap L s c w h)
  have hm24 := make24
  have hm25 := make25
  have hm32 := make32
  clear h
  by_cases hbig : 65536 < n
  · go_enter Try.func3, Try.ntmps3
    go_wp2_with (go_at_call 5; refine HB5.out.mono ?_; rintro e w' ⟨⟨t, rfl⟩, hw⟩; obtain rfl := hw.symm)
    all_goals (go_ret; exact ⟨rfl, Below.refl _ _⟩)
  · go_enter Try.func3, Try.ntmps3
    go_wp2_with (go_at_call 5; refine HB5.out.mono ?_; rintro e w' ⟨⟨t, rfl⟩, hw⟩; obtain rfl := hw.symm)
    · go_ret
      exact ⟨rfl, Below.refl _ _⟩
    · go_loop [7, 8] (fun z i => ∃ (k : Nat) (x : Int), k ≤ n ∧ i = .int .i64 k ∧ z = .int .i64 x) (fun _ i => n - (intOf i).toNat)
      case atStart => exact ⟨0, _, Nat.zero_le _, rfl, rfl⟩
      case round =>
        obtain ⟨k, x, hk, rfl, rfl⟩ := hrel
        by_cases hlt : k < n
        · obtain ⟨b, off, rfl, hblk, hc⟩ := H.out.place (by omega)
          have hcell := hc k hlt
          have hsz := H.out.at_sz k
          obtain ⟨S, hS⟩ : ∃ S, S = L.getD k ByteArray.empty := ⟨_, rfl⟩
          rw [← hS] at hcell hsz
          have hsz : S.size ≤ 9223372036854775807 := hsz
          clear hc H hS
          go_wp2
          all_goals first
            | (go_ret; first | exact Below.refl _ _ | exact ⟨rfl, Below.refl _ _⟩)
            | (go_round
               case rel => exact ⟨k + 1, _, by omega, by go_num, rfl⟩
               case measure => simp [intOf]; omega)
        · obtain rfl : k = n := by omega
          clear HB5
          by_cases hs0 : s < 0
          · go_wp2
            go_ret
            first | exact Below.refl _ _ | exact ⟨rfl, Below.refl _ _⟩
          by_cases hs1 : 16384 ≤ s
          · go_wp2
            go_ret
            first | exact Below.refl _ _ | exact ⟨rfl, Below.refl _ _⟩
          by_cases hc0 : c < 0
          · go_wp2
            go_ret
            first | exact Below.refl _ _ | exact ⟨rfl, Below.refl _ _⟩
          obtain ⟨sk, rfl⟩ : ∃ j : Nat, s = j := ⟨s.toNat, by omega⟩
          obtain ⟨ck, rfl⟩ : ∃ j : Nat, c = j := ⟨c.toNat, by omega⟩
          have hsk : sk < 16384 := by omega
          have hck : ck ≤ 9223372036854775807 := by omega
          go_wp2
          go_loopw [11, 12] (fun cn i wr => ∃ (j : Nat) (D Dd : DataW Unit), j ≤ k ∧ i = .int .i64 j ∧ cn = .int .i64 (Maps.size D) ∧ wr.ownsMap Try.prog 9 unitElem w.heap.size j D ∧ wr.ownsMap Try.prog 9 anyElem (w.heap.size + 1) j Dd ∧ Below w.heap.size w wr ∧ w.heap.size + 2 ≤ wr.heap.size) (fun _ i _ => k - (intOf i).toNat)
          case atStart =>
            refine ⟨0, .map [], .map [], Nat.zero_le _, rfl, rfl, (World.ownsMap_made _ _ _ _).alloc _, ?_, ((Below.refl _ _).alloc (Nat.le_refl _) _).alloc (by simp) _, by simp⟩
            have := World.ownsMap_made (H := Unit) (w.alloc (.map #[] 0)) Try.prog 9 anyElem
            simpa using this
          case round =>
            obtain ⟨j, D, Dd, hj, rfl, rfl, hown, hownD, hnx, hws⟩ := hrel
            have hsl := hown.size_le
            by_cases hlt : j < k
            · obtain ⟨b, off, rfl, hblk, hc⟩ := H.out.place (by omega)
              have hcell := (hnx.cell (p := ⟨b, off + j, none⟩) hblk).trans (hc j hlt)
              have hkey := key_str _ (H.out.at_sz j)
              obtain ⟨S, hS⟩ : ∃ S, S = L.getD j ByteArray.empty := ⟨_, rfl⟩
              rw [← hS] at hcell hkey
              clear hc H hS
              rcases hh : Maps.has D (.string S.data.toList) with _ | _
              · go_wp2_with (first
                  | (at_lookup; refine wpList_lookup_own_unit _ rfl _ _ 24 rfl 9 26 law9 Try.underlying24 (zero26 _) w.heap.size j _ rfl hown _ _ rfl hkey ?_)
                  | (at_mapUpdate; refine wpList_mapUpdate_own _ rfl _ _ _ 24 rfl 9 26 law9 Try.underlying24 (unitElem (H := Unit)) w.heap.size j _ rfl (hown.alloc _) (by unfold maxLen; omega) _ _ _ rfl rfl hkey _ [] unitElem_mk ?_; intro w1 hown1 hgrow1)
                  | (at_mapUpdate; refine wpList_mapUpdate_own _ rfl _ _ _ 25 rfl 9 28 law9 Try.underlying25 anyElem (w.heap.size + 1) j _ rfl (((hownD.alloc (.cells #[] 26)).kept hgrow1 (by simp)).alloc _) (by unfold maxLen; omega) _ _ _ rfl rfl hkey _ [] rfl ?_; intro w2 hown2 hgrow2))
                have s1 := hgrow1.size
                have s2 := hgrow2.size
                simp at s1 s2
                go_roundw
                case rel =>
                  refine ⟨j + 1, D.put (.string S.data.toList) (.agg []), _, by omega, by go_num, ?_, (hown1.alloc _).kept hgrow2 (by simp), hown2, ?_, by omega⟩
                  · rw [size_put (hown.tidy law9), hh]
                    simp
                  · exact ((((hnx.alloc hnx.size _).grown hgrow1 (by simp; omega) (fun j hj => by cases hj; exact Nat.le_refl _)).alloc (by omega) _).grown hgrow2 (by simp; omega) (fun j hj => by cases hj; omega))
                case measure => simp [intOf]; omega
              · go_wp2_with (at_lookup; refine wpList_lookup_own_unit _ rfl _ _ 24 rfl 9 26 law9 Try.underlying24 (zero26 _) w.heap.size j _ rfl hown _ _ rfl hkey ?_)
                go_roundw
                case rel => exact ⟨j + 1, D, Dd, by omega, by go_num, rfl, (hown.alloc _).mono (Nat.le_succ _), (hownD.alloc _).mono (Nat.le_succ _), hnx.alloc hnx.size _, by simp; omega⟩
                case measure => simp [intOf]; omega
            · obtain rfl : j = k := by omega
              clear H
              have HN := Lib.hid hnx
              clear hnx
              go_wp2_with (first
                | (go_at_call 6; refine (new1_any (w.heap.size + 1) w.heap.size sk hsk wr).mono ?_; rintro e w2 ⟨rfl, ⟨C, hS⟩, hb2, hs2⟩; have HS := Lib.hid hS; have HB2 := Lib.hid hb2; have HS2 := Lib.hid hs2; clear hS hb2 hs2)
                | (go_at_call 7; refine (keys_any wr.heap.size w.heap.size sk j ck C _ D w2 HS.out hsk (by simp) (own_below hown HB2.out (by omega)) (by omega) (by omega) hck).mono ?_; rintro e w3 ⟨g, gcap, ss, rfl, hgot, hrow, hb3⟩; have HG := Lib.hid hgot; have HR := Lib.hid hrow; have HB3 := Lib.hid hb3; clear hgot hrow hb3; refine Hid.out ?_))
              refine Lib.hid ?_
              have hlen := HG.out.len
              have h23 := HS2.out
              have s3 := HB3.out.size
              have hD3 : w3.ownsMap Try.prog 9 unitElem w.heap.size j D := own_below (own_below hown HB2.out (by omega)) HB3.out (by omega)
              have bel3 : Below w.heap.size w w3 := (HN.out.trans (HB2.out.mono (by omega))).trans (HB3.out.mono (by omega))
              have hlt3 : w.heap.size < w3.heap.size := by omega
              have HBEL := Lib.hid bel3
              have hgl := HR.out.lt g rfl
              clear hown hownD HN HB2 HB3 HS HS2 bel3 h23 s3
              have hssl : ss.length ≤ 65536 := by omega
              rcases (show ss.length < Maps.size D ∧ ck = ss.length ∨ ¬ ck < ss.length ∧ Maps.size D = ss.length from by omega) with ⟨hcs, hl⟩ | ⟨hcs, hl⟩
              all_goals
                clear hlen
                go_wp2
                clear hl hcs
                go_loopw [20] (fun i wr => ∃ (q : Nat) (E : DataW Unit), q ≤ ss.length ∧ i = .int .i64 q ∧ wr.ownsMap Try.prog 9 (plainElem Try.prog 4) w3.heap.size q E ∧ SeenAt E (ss.take q) ∧ Below w3.heap.size w3 wr) (fun i _ => ss.length - (intOf i).toNat)
                case atStart => exact ⟨0, .map [], Nat.zero_le _, rfl, World.ownsMap_made _ _ _ _, SeenAt.start, (Below.refl _ _).alloc (Nat.le_refl _) _⟩
                case round =>
                  obtain ⟨q, E, hq, rfl, hE, hseen, hnx⟩ := hrel
                  by_cases hlt : q < ss.length
                  · have hcell : wr.cell? ⟨g, q, none⟩ = some (encStr (ss.getD q [])) := by
                      rw [hnx.cell (p := ⟨g, q, none⟩) hgl.2, HR.out.cellAt q (by omega), List.getElem?_map, List.getD, List.getElem?_eq_getElem hlt]; rfl
                    have hhas := HG.out.mem _ (mem_at ss q hlt)
                    have hkey := key_enc _ (has_sz hD3 hhas)
                    have hat := (hseen (ss.getD q [])).trans (by rw [fresh_at ss HG.out.nodup q hlt])
                    have htk := Lib.hid (take_next [] ss q hlt)
                    have hDr := own_below hD3 hnx hlt3
                    obtain ⟨X, hX⟩ : ∃ X, X = ss.getD q [] := ⟨_, rfl⟩
                    rw [← hX] at hcell hhas hkey hat htk
                    clear hX
                    have HSE := Lib.hid hseen
                    clear hseen
                    go_wp2_with (first
                      | (at_lookup; refine wpList_lookup_own_unit _ rfl _ _ 24 rfl 9 26 law9 Try.underlying24 (zero26 _) w.heap.size j _ rfl hDr _ _ rfl hkey ?_)
                      | (at_lookup; refine wpList_lookup_own_bool _ rfl _ _ rfl w3.heap.size q E rfl (hE.alloc _) _ _ rfl hkey false hat ?_)
                      | (at_mapUpdate; refine wpList_mapUpdate_own _ rfl _ _ _ 32 rfl 9 4 law9 Try.underlying32 (plainElem (H := Unit) Try.prog 4) w3.heap.size q E rfl (hE.alloc _) (by unfold maxLen; omega) _ _ _ rfl rfl hkey _ [] (plainElem_bool Try.underlying4 true) ?_; intro w4 hE4 hgrow4))
                    go_roundw
                    case rel => exact ⟨q + 1, _, by omega, by go_num, hE4, by rw [htk.out]; exact HSE.out.step hE.isMap X, (hnx.alloc hnx.size _).grown hgrow4 (by have := hnx.size; simp; omega) (fun j hj => by cases hj; exact Nat.le_refl _)⟩
                    case measure => simp [intOf]; omega
                  · obtain rfl : q = ss.length := by omega
                    go_wp2
                    go_ret
                    have := HBEL.out.trans (hnx.mono (by omega))
                    first | exact this | exact ⟨rfl, this⟩

end Go.Proofs.Qxb6632669a
