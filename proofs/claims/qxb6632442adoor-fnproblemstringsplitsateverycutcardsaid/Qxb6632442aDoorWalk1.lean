/-
  SEAT b6632442aD: contracts of the law's own small functions: zzBytes_.., zzCountCommas.
-/
import Derived.Test.Qxb6632442aDoorRows
import Derived.Test.Qxb6632442aDoorTxt
import Derived.WalkKit
namespace Go.Proofs.Qxb6632442aDoor
open Go Go.RowKit Txt

theorem ret_int {k : IntKind} {a b : Int} (h : a = b) : Ending.returned (.int k a) = .returned (.int k b) := by rw [h]

/-- zzBytes_FnProblemStringSplitsAtEveryCut: a Bool, nothing turned. -/
theorem bytesSplit_any (a b : Option Addr) (la ca lb cb : Nat) (ha : la ≤ maxLen) (hb : lb ≤ maxLen) (w : World) :
    Calls Tryd.prog 8 #[.slice a la ca, .slice b lb cb] w fun e w' => (∃ t : Bool, e = .returned (.bool t)) ∧ w' = w := by
  unfold maxLen at ha hb
  go_enter Tryd.func8, Tryd.ntmps8
  go_wp2
  all_goals
    go_ret
    exact ⟨⟨_, rfl⟩, rfl⟩

/-- zzBytes_FnProblemStringDecodesBackExactly. -/
theorem bytesDec_any (a : Option Addr) (la ca : Nat) (ha : la ≤ maxLen) (w : World) :
    Calls Tryd.prog 5 #[.slice a la ca] w fun e w' => (∃ t : Bool, e = .returned (.bool t)) ∧ w' = w := by
  unfold maxLen at ha
  go_enter Tryd.func5, Tryd.ntmps5
  go_wp2
  all_goals
    go_ret
    exact ⟨⟨_, rfl⟩, rfl⟩

theorem take_snoc (s : ByteArray) (k : Nat) (h : k < s.size) : s.data.toList.take (k + 1) = s.data.toList.take k ++ [s[k]] := by
  rw [List.take_succ_eq_append_getElem (by simpa using h)]; rfl

/-- zzCountCommas: the number of commas; nothing turned. -/
theorem commas_any (s : ByteArray) (w : World) (hs : s.size ≤ 140737488355328) :
    Calls Tryd.prog 9 #[.string s] w fun e w' => e = .returned (.int .i64 (cnt s.data.toList)) ∧ w' = w := by
  go_enter Tryd.func9, Tryd.ntmps9
  go_wp2
  go_loop [3, 4] (fun n i => ∃ k : Nat, k ≤ s.size ∧ i = .int .i64 k ∧ n = .int .i64 (cnt (s.data.toList.take k))) (fun _ i => s.size - (intOf i).toNat)
  case atStart => exact ⟨0, Nat.zero_le _, rfl, rfl⟩
  case round =>
    obtain ⟨k, hk, rfl, rfl⟩ := hrel
    have hd := cnt_le (s.data.toList.take k)
    have hl : (s.data.toList.take k).length ≤ k := List.length_take_le _ _
    by_cases hlt : k < s.size
    · have HS : Hid (cnt (s.data.toList.take (k + 1)) = cnt (s.data.toList.take k) + if s[k].toNat = 44 then 1 else 0) := by
        rw [take_snoc s k hlt]; exact cnt_snoc _ _
      go_wp2
      all_goals
        go_round
        case rel => exact ⟨k + 1, by omega, by go_num, by rw [HS.out]; first | (rw [if_pos (by simp_all; omega)]; go_num) | (rw [if_neg (by simp_all; omega)]; go_num)⟩
        case measure => simp [intOf]; omega
    · go_wp2
      go_ret
      exact ⟨ret_int (by rw [List.take_of_length_le (by simp; omega)]), rfl⟩

end Go.Proofs.Qxb6632442aDoor
