/-
  SEAT b6632669a: strings read, maps kept, zzBytes.
-/
import Derived.Test.Qxb6632669aKeys2
import Derived.Maps.OwnOps
import Derived.Carry
import Derived.WalkKit
namespace Go.Proofs.Qxb6632669a
open Go Go.RowKit Go.Maps
open Go.Proofs (encStr)

/-- A SLICE OF STRINGS AS IT LIES. -/
structure RdS (w : World) (ao : Option Addr) (n cap : Nat) (L : List ByteArray) : Prop where
  len : L.length = n
  le : n ≤ cap
  max : cap ≤ maxLen
  place : 0 < n → ∃ b off, ao = some ⟨b, off, none⟩ ∧ b < w.heap.size ∧ ∀ i, i < n → w.cell? ⟨b, off + i, none⟩ = some (.string (L.getD i ByteArray.empty))
  sz : ∀ s ∈ L, s.size ≤ maxLen

theorem RdS.at_sz {w : World} {ao : Option Addr} {n cap : Nat} {L : List ByteArray} (h : RdS w ao n cap L) (i : Nat) : (L.getD i ByteArray.empty).size ≤ maxLen := by
  by_cases hk : i < L.length
  · rw [List.getD, List.getElem?_eq_getElem hk]
    exact h.sz _ (List.getElem_mem hk)
  · rw [List.getD, List.getElem?_eq_none (by omega)]
    exact Nat.zero_le _
theorem RdS.on {w w' : World} {ao : Option Addr} {n cap : Nat} {L : List ByteArray} (h : RdS w ao n cap L) (hb : Below w.heap.size w w') : RdS w' ao n cap L :=
  ⟨h.len, h.le, h.max, fun hn => by
    obtain ⟨b, off, e, hlt, hc⟩ := h.place hn
    exact ⟨b, off, e, Nat.lt_of_lt_of_le hlt hb.size, fun i hi => (hb.cell (p := ⟨b, off + i, none⟩) hlt).trans (hc i hi)⟩, h.sz⟩

theorem key_str (s : ByteArray) (h : s.size ≤ maxLen) : keyOf Try.prog 9 (.string s) = some (.string s.data.toList) := Go.WideMaps.keyOf_string_mk Try.underlying9 h
theorem keyLit (x : List UInt8) : WideAt.IsKeyLit (.string x) := by trivial

theorem own_below {H : Type} {w w' : World} {N b n : Nat} {D : DataW H} {R : Value → Option (DataW H × List MemPlace)} (hown : w.ownsMap Try.prog 9 R b n D) (hb : Below N w w') (hN : b < N) : w'.ownsMap Try.prog 9 R b n D := by
  obtain ⟨es, clock, h, r⟩ := hown
  exact ⟨es, clock, (hb.block b hN).trans h, r⟩

theorem make24 (z : Int) (w : World) : (Instr.makeMap 24 (some (.int .i64 z))).run Try.prog w = .ok (.map (some w.heap.size)) (w.alloc (.map #[] 0)) := by
  simp [Instr.makeMap, go_sem]
theorem make25 (z : Int) (w : World) : (Instr.makeMap 25 (some (.int .i64 z))).run Try.prog w = .ok (.map (some w.heap.size)) (w.alloc (.map #[] 0)) := by
  simp [Instr.makeMap, go_sem]
theorem make32 (z : Int) (w : World) : (Instr.makeMap 32 (some (.int .i64 z))).run Try.prog w = .ok (.map (some w.heap.size)) (w.alloc (.map #[] 0)) := by
  simp [Instr.makeMap, go_sem]
theorem zero26 (w : World) : (zeroValue 26).run Try.prog w = .ok (.agg #[]) w := by kernel_rfl
theorem zero4 (w : World) : (zeroValue 4).run Try.prog w = .ok (.bool false) w := by kernel_rfl

theorem plainElem_bool_inv {H : Type} {v : Value} {z : DataW H × List MemPlace} (h : plainElem Try.prog 4 v = some z) : ∃ a, v = .bool a ∧ z = (.lit (.bool a), []) := by
  unfold plainElem at h
  rw [Try.underlying4] at h
  split at h
  · rename_i x _; exact ⟨x, rfl, (Option.some.inj h).symm⟩
  · rename_i he; cases he
  · rename_i he; cases he
  · cases h

/-- 'seen[k]'. -/
theorem wpList_lookup_own_bool {H : Type} (w : World) {ops : Array Oper} {rest : List Oper} {o : Oper} {a : Act} {Q : Exit → Act → World → Prop}
    (hg : o.guard = none) (m x : Operand) (hop : o.op = Op.lookup 32 m x false) (b n : Nat) (D : DataW H)
    (hm : a.eval m = .map (some b)) (hown : w.ownsMap Try.prog 9 (plainElem Try.prog 4) b n D) (key : Value) (kl : Lit) (hx : a.eval x = key) (hkey : keyOf Try.prog 9 key = some kl)
    (c : Bool) (hat : D.atKey kl (.lit (.bool false)) = .lit (.bool c))
    (hK : wpList Try.prog ops Q rest (a.put o.dst (.bool c)) w) :
    wpList Try.prog ops Q (o :: rest) a w := by
  refine wpList_plain hg fun K' hK' => ?_
  obtain ⟨v, ps, hrun, hv⟩ := hown.lookup law9 Try.underlying32 (zero4 w) (plainElem_bool Try.underlying4 false) hkey
  obtain ⟨c', rfl, hc⟩ := plainElem_bool_inv hv
  rw [hat] at hc
  obtain rfl : c = c' := (by simpa using hc : c = c' ∧ ps = []).1
  unfold Oper.wp
  simp [execOp, hop, hm, hx, hrun, Result.andThen]
  exact hK' _ _ hK

/-- WHAT seen HOLDS. -/
def SeenAt {H : Type} (E : DataW H) (L : List (List UInt8)) : Prop := ∀ x, E.atKey (.string x) (.lit (.bool false)) = .lit (.bool (decide (x ∈ L)))
theorem SeenAt.start {H : Type} : SeenAt (H := H) (.map []) [] := fun _ => rfl
theorem SeenAt.step {H : Type} {E : DataW H} {L : List (List UInt8)} (h : SeenAt E L) (hE : IsMap E) (x : List UInt8) : SeenAt (E.put (.string x) (.lit (.bool true))) (L ++ [x]) := by
  intro y
  by_cases e : y = x
  · subst e
    rw [atKey_put_same hE (keyLit _)]
    simp
  · rw [atKey_put_other (by simpa using e), h y]
    simp [e]

/-- A Bool comes back. -/
def BoolRet (e : Ending) : Prop := ∃ t : Bool, e = .returned (.bool t)

set_option maxRecDepth 100000 in
set_option maxHeartbeats 2000000 in
theorem bytes5 (ao : Option Addr) (n cap : Nat) (L : List ByteArray) (s c : Int) (w : World) (h : RdS w ao n cap L) :
    Calls Try.prog 5 #[.slice ao n cap, .int .i64 s, .int .i64 c] w fun e w' => BoolRet e ∧ w' = w := by
  have H : Hid (RdS w ao n cap L) := h
  have hle := h.le
  have hmx : cap ≤ 9223372036854775807 := h.max
  clear h
  go_enter Try.func5, Try.ntmps5
  by_cases hbig : 1048576 < n
  · go_wp2
    go_ret
    first | exact ⟨_, rfl⟩ | exact ⟨⟨_, rfl⟩, rfl⟩
  · go_wp2
    go_loop [7, 8] (fun z i => ∃ (k : Nat) (x : Int), k ≤ n ∧ i = .int .i64 k ∧ z = .int .i64 x) (fun _ i => n - (intOf i).toNat)
    case atStart => exact ⟨0, _, Nat.zero_le _, rfl, rfl⟩
    case round =>
      obtain ⟨k, x, hk, rfl, rfl⟩ := hrel
      by_cases hlt : k < n
      · obtain ⟨b, off, rfl, hblk, hc⟩ := H.out.place (by omega)
        have hcell := hc k hlt
        have hsz := H.out.at_sz k
        obtain ⟨S, hS⟩ : ∃ S, S = L.getD k ByteArray.empty := ⟨_, rfl⟩
        rw [← hS] at hcell hsz
        have hsz : S.size ≤ 9223372036854775807 := hsz
        clear hc H hS
        go_wp2
        all_goals first
          | (go_ret; first | exact ⟨_, rfl⟩ | exact ⟨⟨_, rfl⟩, rfl⟩)
          | (go_round
             case rel => exact ⟨k + 1, _, by omega, by go_num, rfl⟩
             case measure => simp [intOf]; omega)
      · obtain rfl : k = n := by omega
        go_wp2
        go_ret
        first | exact ⟨_, rfl⟩ | exact ⟨⟨_, rfl⟩, rfl⟩

set_option maxRecDepth 100000 in
set_option maxHeartbeats 2000000 in
theorem bytes8 (ao : Option Addr) (n cap : Nat) (L : List ByteArray) (bo : Option Addr) (m mcap : Nat) (M : List ByteArray) (s c : Int) (w : World) (h : RdS w ao n cap L) (h' : RdS w bo m mcap M) :
    Calls Try.prog 8 #[.slice ao n cap, .slice bo m mcap, .int .i64 s, .int .i64 c] w fun e w' => BoolRet e ∧ w' = w := by
  have H : Hid (RdS w ao n cap L) := h
  have H' : Hid (RdS w bo m mcap M) := h'
  have hle := h.le
  have hmx : cap ≤ 9223372036854775807 := h.max
  have hle' := h'.le
  have hmx' : mcap ≤ 9223372036854775807 := h'.max
  clear h h'
  go_enter Try.func8, Try.ntmps8
  by_cases hbig : 1048576 < n
  · go_wp2
    go_ret
    first | exact ⟨_, rfl⟩ | exact ⟨⟨_, rfl⟩, rfl⟩
  · go_wp2
    go_loop [9, 10] (fun z i => ∃ (k : Nat) (x : Int), k ≤ n ∧ i = .int .i64 k ∧ z = .int .i64 x) (fun _ i => n - (intOf i).toNat)
    case atStart => exact ⟨0, _, Nat.zero_le _, rfl, rfl⟩
    case round =>
      obtain ⟨k, x, hk, rfl, rfl⟩ := hrel
      by_cases hlt : k < n
      · obtain ⟨b, off, rfl, hblk, hc⟩ := H.out.place (by omega)
        have hcell := hc k hlt
        have hsz := H.out.at_sz k
        obtain ⟨S, hS⟩ : ∃ S, S = L.getD k ByteArray.empty := ⟨_, rfl⟩
        rw [← hS] at hcell hsz
        have hsz : S.size ≤ 9223372036854775807 := hsz
        clear hc H H' hS
        go_wp2
        all_goals first
          | (go_ret; first | exact ⟨_, rfl⟩ | exact ⟨⟨_, rfl⟩, rfl⟩)
          | (go_round
             case rel => exact ⟨k + 1, _, by omega, by go_num, rfl⟩
             case measure => simp [intOf]; omega)
      · obtain rfl : k = n := by omega
        by_cases hbig' : 1048576 < m
        · go_wp2
          go_ret
          first | exact ⟨_, rfl⟩ | exact ⟨⟨_, rfl⟩, rfl⟩
        · go_wp2
          · go_ret
            first | exact ⟨_, rfl⟩ | exact ⟨⟨_, rfl⟩, rfl⟩
          go_loop [9, 11] (fun z i => ∃ (k : Nat) (x : Int), k ≤ m ∧ i = .int .i64 k ∧ z = .int .i64 x) (fun _ i => m - (intOf i).toNat)
          case atStart => exact ⟨0, _, Nat.zero_le _, rfl, rfl⟩
          case round =>
            obtain ⟨k, x, hk, rfl, rfl⟩ := hrel
            by_cases hlt : k < m
            · obtain ⟨b, off, rfl, hblk, hc⟩ := H'.out.place (by omega)
              have hcell := hc k hlt
              have hsz := H'.out.at_sz k
              obtain ⟨S, hS⟩ : ∃ S, S = M.getD k ByteArray.empty := ⟨_, rfl⟩
              rw [← hS] at hcell hsz
              have hsz : S.size ≤ 9223372036854775807 := hsz
              clear hc H H' hS
              go_wp2
              all_goals first
                | (go_ret; first | exact ⟨_, rfl⟩ | exact ⟨⟨_, rfl⟩, rfl⟩)
                | (go_round
                   case rel => exact ⟨k + 1, _, by omega, by go_num, rfl⟩
                   case measure => simp [intOf]; omega)
            · obtain rfl : k = m := by omega
              go_wp2
              go_ret
              first | exact ⟨_, rfl⟩ | exact ⟨⟨_, rfl⟩, rfl⟩

end Go.Proofs.Qxb6632669a
