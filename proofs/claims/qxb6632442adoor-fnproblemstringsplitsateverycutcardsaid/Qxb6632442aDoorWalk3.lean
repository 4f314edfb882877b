/-
  SEAT b6632442aD: zzDecodesTo, at the text of the list: true; nothing turned.
-/
import Derived.Test.Qxb6632442aDoorWalk2
import Derived.Test.Qxb6632442aDoorTxt2
import Derived.Outline
namespace Go.Proofs.Qxb6632442aDoor
open Go Go.RowKit Txt

/-- An empty list (nil or not): the text is empty. -/
theorem decodes_nil (a : Option Addr) (cap : Nat) (w : World) :
    Calls Tryd.prog 7 #[.string ⟨#[]⟩, .slice a 0 cap] w fun e w' => e = .returned (.bool true) ∧ w' = w := by
  go_enter Tryd.func7, Tryd.ntmps7
  go_wp2
  go_ret
  exact ⟨rfl, rfl⟩

set_option maxRecDepth 100000 in
set_option maxHeartbeats 8000000 in
theorem decodes_any (L : List Int) (s : ByteArray) (hs : s.data.toList = txt L) (hF : Fits L) (b off cap : Nat) (w : World)
    (hne : 1 ≤ L.length) (hlen : L.length ≤ 131072) (hc : ∀ i, i < L.length → w.cell? ⟨b, off + i, none⟩ = some (.int .i64 (L.getD i 0))) :
    Calls Tryd.prog 7 #[.string s, .slice (some ⟨b, off, none⟩) L.length cap] w fun e w' => e = .returned (.bool true) ∧ w' = w := by
  have hsz : s.size = (txt L).length := by rw [← hs]; rfl
  have hle := txt_length_le L hF
  have hs1 : s.size ≤ 2883584 := by omega
  obtain ⟨n, hn⟩ : ∃ n, n = L.length := ⟨_, rfl⟩
  have HN : Hid (n = L.length) := hn
  have HS : Hid (s.size = (txt L).length) := hsz
  have HT : Hid (s.data.toList = txt L) := hs
  rw [← hn] at hne hlen hc ⊢
  clear hn hsz hs hle
  have hB : ∀ i (h : i < s.size), (s[i]'h).toNat = byteAt s i := byteAt_eq s
  have hn0 : ((n : Int) == 0) = false := by simp; omega
  go_enter Tryd.func7, Tryd.ntmps7
  go_wp2
  go_loop [5, 6] (fun p i => ∃ k : Nat, k ≤ n ∧ i = .int .i64 k ∧ p = .int .i64 (txt (L.take k)).length) (fun _ i => n - (intOf i).toNat)
  case atStart => exact ⟨0, Nat.zero_le _, rfl, rfl⟩
  case round =>
    obtain ⟨k, hk, rfl, rfl⟩ := hrel
    by_cases hlt : k < n
    · obtain ⟨c, g, nd, hp⟩ := place L s HT.out hF k (by rw [← HN.out]; exact hlt)
      have hx := hF L[k] (List.getElem_mem (by rw [← HN.out]; exact hlt))
      have hcell : w.cell? ⟨b, off + k, none⟩ = some (.int .i64 L[k]) := by
        rw [hc k hlt, List.getD, List.getElem?_eq_getElem (by rw [← HN.out]; exact hlt)]; rfl
      clear hc
      obtain ⟨x, hxe⟩ : ∃ x, x = L[k] := ⟨_, rfl⟩
      rw [← hxe] at hp hx hcell
      have HX : Hid (x = L[k]) := hxe
      clear hxe
      obtain ⟨P, hP⟩ : ∃ P, P = (txt (L.take k)).length := ⟨_, rfl⟩
      rw [← hP] at hp ⊢
      have HP : Hid (P = (txt (L.take k)).length) := hP
      clear hP
      obtain ⟨P', hP'⟩ : ∃ P', P' = (txt (L.take (k + 1))).length := ⟨_, rfl⟩
      rw [← hP'] at hp
      have HP' : Hid (P' = (txt (L.take (k + 1))).length) := hP'
      clear hP'
      obtain ⟨c0, c1, g0, g1, nd1, nd19, next, fit, dig, full, stop, first⟩ := hp
      obtain ⟨st, hst⟩ : ∃ st, st = P + c + g := ⟨_, rfl⟩
      rw [← hst] at next dig first
      have HST : Hid (st = P + c + g) := hst
      have HNX : Hid (P' = st + nd) := next
      have hfit : st + nd ≤ s.size := by omega
      have hstop : st + nd < s.size → byteAt s (st + nd) = 44 := by rw [← next]; exact stop
      clear next stop fit hst
      rcases (show k ≤ 0 ∨ 0 < k from by omega) with hk0 | hk0
      all_goals rcases (show x < 0 ∨ 0 ≤ x from by omega) with hx0 | hx0
      -- the first entry, negative
      obtain rfl := c0 (by omega)
      obtain ⟨rfl, hb⟩ := g1 hx0
      simp only [Nat.add_zero] at hb
      have hs1 : st ≤ P + 1 := by have := HST.out; omega
      have hs2 : P + 1 ≤ st := by have := HST.out; omega
      have hfirst : 1 < nd → 49 ≤ byteAt s (P + 1) := by rw [show P + 1 = st by omega]; exact first
      rotate_left
      -- the first entry, not negative
      obtain rfl := c0 (by omega)
      obtain ⟨rfl, hb⟩ := g0 hx0
      simp only [Nat.add_zero] at hb
      have hs1 : st ≤ P := by have := HST.out; omega
      have hs2 : P ≤ st := by have := HST.out; omega
      have hfirst : 1 < nd → 49 ≤ byteAt s P := by rw [show P = st by omega]; exact first
      rotate_left
      -- a later entry, negative
      obtain ⟨rfl, hPs, hcomma⟩ := c1 (by omega)
      obtain ⟨rfl, hb⟩ := g1 hx0
      have hs1 : st ≤ P + 1 + 1 := by have := HST.out; omega
      have hs2 : P + 1 + 1 ≤ st := by have := HST.out; omega
      have hfirst : 1 < nd → 49 ≤ byteAt s (P + 1 + 1) := by rw [show P + 1 + 1 = st by omega]; exact first
      rotate_left
      -- a later entry, not negative
      obtain ⟨rfl, hPs, hcomma⟩ := c1 (by omega)
      obtain ⟨rfl, hb⟩ := g0 hx0
      have hs1 : st ≤ P + 1 := by have := HST.out; omega
      have hs2 : P + 1 ≤ st := by have := HST.out; omega
      have hfirst : 1 < nd → 49 ≤ byteAt s (P + 1) := by rw [show P + 1 = st by omega]; exact first
      rotate_left
      all_goals
        clear c0 c1 g0 g1 first HST
        go_wp2
        go_loop [5, 9] (fun p u => ∃ j : Nat, j ≤ nd ∧ p = .int .i64 ((st : Int) + j) ∧ u = .int .u64 (val ((Lib.decDigits (mag x)).take j))) (fun p _ => st + nd - (intOf p).toNat)
        case atStart => exact ⟨0, Nat.zero_le _, by go_num, rfl⟩
        case round =>
          obtain ⟨j, hj, rfl, rfl⟩ := hrel
          by_cases hjl : j < nd
          · obtain ⟨d, hd, hd1, hd2, hv, hv2⟩ := dig j hjl
            obtain ⟨v, hve⟩ : ∃ v, v = val ((Lib.decDigits (mag x)).take j) := ⟨_, rfl⟩
            rw [← hve] at hv hv2 ⊢
            have hm : mag x ≤ 9223372036854775808 := by unfold mag; omega
            have hv3 : d + v * 10 ≤ 9223372036854775808 + 48 := by omega
            have HV : Hid (val ((Lib.decDigits (mag x)).take (j + 1)) = v * 10 + (d - 48)) := hv
            clear hv hv2 hve hm dig full hstop hfirst
            go_wp2
            go_round
            case rel => exact ⟨j + 1, by omega, by go_num, by rw [HV.out]; go_num⟩
            case measure => simp [intOf]; omega
          · obtain rfl : j = nd := by omega
            clear dig
            rw [full]
            have hmx : x < 0 → 1 ≤ mag x := by unfold mag; omega
            clear full
            have h1 : st + j < s.size → byteAt s (st + j) = 44 := hstop
            clear hstop
            rcases (show st + j < s.size ∨ s.size ≤ st + j from by omega) with he | he
            all_goals rcases (show j ≤ 1 ∨ 1 < j from by omega) with hn1 | hn1
            all_goals
              try have h44 := h1 he
              try have hf := hfirst hn1
              try have hm1 := hmx hx0
              clear h1 hfirst hmx
              go_wp2_with (go_at_call 11; first | (refine (mag_neg x (by omega) (by omega) _).mono ?_; rintro e w' ⟨rfl, rfl⟩) | (refine (mag_pos x (by omega) (by omega) _).mono ?_; rintro e w' ⟨rfl, rfl⟩))
              go_round
              case rel => exact ⟨k + 1, by omega, by go_num, by rw [← HP'.out, HNX.out]; go_num⟩
              case measure => simp [intOf]; omega
    · have hkn : k = n := by omega
      have HE : Hid (((txt (L.take k)).length : Int) = s.size) := by
        show ((txt (L.take k)).length : Int) = s.size
        rw [HS.out, hkn, HN.out, List.take_length]
      have hE : (((txt (L.take k)).length : Int) == (s.size : Int)) = true := by simpa using HE.out
      clear hkn
      go_wp2
      go_ret
      exact ⟨rfl, rfl⟩

end Go.Proofs.Qxb6632442aDoor
