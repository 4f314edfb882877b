/-
  SEAT b6632546a: FnStartIgnoresOldReadyAndIsStable.
-/
import Derived.Test.Qxb6632546aWalk2
import Derived.Test.Qxb6632546aRowy2
import Derived.Deep.Cut
import Derived.Deep.RegionWith
namespace Go.Proofs.Qxb6632546a
open Go Go.RowKit

/-- Too long: true at once. -/
theorem ign_long (a0 a1 a2 a3 a4 : Option Addr) (n0 n1 n2 n3 n4 c0 c1 c2 c3 c4 : Nat) (h0 : n0 ≤ maxLen) (h1 : n1 ≤ maxLen) (h2 : n2 ≤ maxLen) (h3 : n3 ≤ maxLen) (h4 : n4 ≤ maxLen) (w : World)
    (h : 32768 < n0 ∨ 32768 < n1 ∨ 32768 < n2 ∨ 32768 < n3 ∨ 32768 < n4) :
    Calls Try.prog 4 #[.slice a0 n0 c0, .slice a1 n1 c1, .slice a2 n2 c2, .slice a3 n3 c3, .slice a4 n4 c4] w fun e w' => e = .returned (.bool true) ∧ Below w.heap.size w w' := by
  have hmx : maxLen = 9223372036854775807 := rfl
  rcases (show 32768 < n0 ∨ (n0 ≤ 32768 ∧ 32768 < n1) ∨ (n0 ≤ 32768 ∧ n1 ≤ 32768 ∧ 32768 < n2) ∨ (n0 ≤ 32768 ∧ n1 ≤ 32768 ∧ n2 ≤ 32768 ∧ 32768 < n3) ∨ (n0 ≤ 32768 ∧ n1 ≤ 32768 ∧ n2 ≤ 32768 ∧ n3 ≤ 32768 ∧ 32768 < n4) from by omega) with k0 | ⟨k0, k1⟩ | ⟨k0, k1, k2⟩ | ⟨k0, k1, k2, k3⟩ | ⟨k0, k1, k2, k3, k4⟩
  all_goals
    clear h hmx
    go_enter Try.func4, Try.ntmps4
    go_wp2_with (go_at_call 9; refine (bytes9 a0 a1 a2 a3 a4 n0 n1 n2 n3 n4 c0 c1 c2 c3 c4 h0 h1 h2 h3 h4 _).mono ?_; rintro e w' ⟨⟨t, rfl⟩, hw⟩; obtain rfl := hw.symm; cases t)
    all_goals
      go_ret
      exact ⟨rfl, Below.refl _ _⟩

set_option maxRecDepth 100000 in
set_option maxHeartbeats 1000000 in
theorem ign_short (a0 a1 a2 a3 a4 : Option Addr) (n0 n1 q n m c0 c1 c2 c3 c4 : Nat) (L0 L1 Q P R : List Int) (w : World)
    (r0 : Rd w a0 n0 c0 L0) (r1 : Rd w a1 n1 c1 L1) (r2 : Rd w a2 q c2 Q) (r3 : Rd w a3 n c3 P) (r4 : Rd w a4 m c4 R) (k0 : n0 ≤ 32768) (k1 : n1 ≤ 32768) (k2 : q ≤ 32768) (k3 : n ≤ 32768) (k4 : m ≤ 32768) :
    Calls Try.prog 4 #[.slice a0 n0 c0, .slice a1 n1 c1, .slice a2 q c2, .slice a3 n c3, .slice a4 m c4] w fun e w' => e = .returned (.bool true) ∧ Below w.heap.size w w' := by
  have hnn := fun (w : World) a n c => run_neq_slice_nil_any (P := Try.prog) w 22 21 a n c 0 0 Try.underlying22
  obtain ⟨i0, hi, hz0, hz1, hz2⟩ := info_parts info21
  have R0 : Hid (Rd w a0 n0 c0 L0) := r0
  have R1 : Hid (Rd w a1 n1 c1 L1) := r1
  have R2 : Hid (Rd w a2 q c2 Q) := r2
  have R3 : Hid (Rd w a3 n c3 P) := r3
  have R4 : Hid (Rd w a4 m c4 R) := r4
  clear r0 r1 r2 r3 r4
  obtain ⟨lo, hlo⟩ : ∃ lo, lo = min q n := ⟨_, rfl⟩
  have hlq : lo ≤ q := by omega
  have hln : lo ≤ n := by omega
  have HLO : Hid (lo = min q n) := hlo
  clear hlo
  have hbw := Below.refl w.heap.size w
  go_enter Try.func4, Try.ntmps4
  go_upto_if 45 with (go_at_call 9; refine (bytes9 a0 a1 a2 a3 a4 n0 n1 q n m c0 c1 c2 c3 c4 (by unfold maxLen; omega) (by unfold maxLen; omega) (by unfold maxLen; omega) (by unfold maxLen; omega) (by unfold maxLen; omega) _).mono ?_; rintro e w' ⟨⟨t, rfl⟩, hw⟩; obtain rfl := hw.symm; cases t)
  · go_ret
    exact ⟨rfl, Below.refl _ _⟩
  · go_cut [0] from 22 (fun v wx => (∃ fo fl fc, v = .slice fo fl fc) ∧ Below w.heap.size w wx)
    case first =>
      have hbs := hbw.size
      cases a0 with
      | none =>
        obtain ⟨h0, h0'⟩ := R0.out.nil rfl
        go_wp2
        go_meet
        case rel => exact ⟨⟨_, _, _, rfl⟩, hbw⟩
      | some x =>
        go_wp2_with (at_make; refine wpList_make_full _ rfl _ _ 22 rfl w.heap.size 21 i0 (.int .i32 0) 1 Try.underlying22 hi hz0 hz1 _ _ _ _ n0 rfl rfl rfl rfl (by rw [hz2]; omega) (by unfold maxLen; omega) (Nat.le_refl _) ?_; intro w1 hown1 hgrow1; refine Hid.out ?_)
        refine Lib.hid ?_
        have hb1 : Below w.heap.size w w1 := (Below.refl _ _).grown hgrow1 (Nat.le_refl _) (by intro k hk; cases hk)
        obtain ⟨w2, mm, hcp, hown2, hb2⟩ := copy_new (P := Try.prog) (T := 22) Try.underlying22 size21 hown1 (R0.out.on (hbw.trans (hb1.mono hbs)))
        have hb3 : Below w.heap.size w w2 := hbw.trans ((hb1.mono hbs).trans (hb2.mono hbs))
        have hrd2 := hown2.rd
        clear hown1 hgrow1 hb2
        go_wp2
        go_meet
        case rel => exact ⟨⟨_, _, _, rfl⟩, hb3⟩
    case rest =>
      clear hbw
      obtain ⟨⟨fo, fl, fc, rfl⟩, hbw⟩ := hcut
      go_upto_if 54 with fail
      go_cut [1] from 22 (fun v wx => (∃ no nl nc, v = .slice no nl nc) ∧ Below w.heap.size w wx)
      case first =>
        have hbs := hbw.size
        cases a1 with
        | none =>
          obtain ⟨h0, h0'⟩ := R1.out.nil rfl
          go_wp2
          go_meet
          case rel => exact ⟨⟨_, _, _, rfl⟩, hbw⟩
        | some x =>
          go_wp2_with (at_make; refine wpList_make_full _ rfl _ _ 22 rfl wc.heap.size 21 i0 (.int .i32 0) 1 Try.underlying22 hi hz0 hz1 _ _ _ _ n1 rfl rfl rfl rfl (by rw [hz2]; omega) (by unfold maxLen; omega) (Nat.le_refl _) ?_; intro w1 hown1 hgrow1; refine Hid.out ?_)
          refine Lib.hid ?_
          have hb1 : Below wc.heap.size wc w1 := (Below.refl _ _).grown hgrow1 (Nat.le_refl _) (by intro k hk; cases hk)
          obtain ⟨w2, mm, hcp, hown2, hb2⟩ := copy_new (P := Try.prog) (T := 22) Try.underlying22 size21 hown1 (R1.out.on (hbw.trans (hb1.mono hbs)))
          have hb3 : Below w.heap.size w w2 := hbw.trans ((hb1.mono hbs).trans (hb2.mono hbs))
          have hrd2 := hown2.rd
          clear hown1 hgrow1 hb2
          go_wp2
          go_meet
          case rel => exact ⟨⟨_, _, _, rfl⟩, hb3⟩
      case rest =>
        clear hbw
        obtain ⟨⟨no, nl, nc, rfl⟩, hbw⟩ := hcut
        go_upto_if 63 with fail
        go_cut [2] from 22 (fun v wx => ∃ qo qc, v = .slice qo q qc ∧ Rd wx qo q qc Q ∧ Below w.heap.size w wx)
        case first =>
          have hbs := hbw.size
          cases a2 with
          | none =>
            obtain ⟨h0, h0'⟩ := R2.out.nil rfl
            go_wp2
            go_meet
            case rel => exact ⟨_, _, rfl, R2.out.on hbw, hbw⟩
          | some x =>
            go_wp2_with (at_make; refine wpList_make_full _ rfl _ _ 22 rfl wc.heap.size 21 i0 (.int .i32 0) 1 Try.underlying22 hi hz0 hz1 _ _ _ _ q rfl rfl rfl rfl (by rw [hz2]; omega) (by unfold maxLen; omega) (Nat.le_refl _) ?_; intro w1 hown1 hgrow1; refine Hid.out ?_)
            refine Lib.hid ?_
            have hb1 : Below wc.heap.size wc w1 := (Below.refl _ _).grown hgrow1 (Nat.le_refl _) (by intro k hk; cases hk)
            obtain ⟨w2, mm, hcp, hown2, hb2⟩ := copy_new (P := Try.prog) (T := 22) Try.underlying22 size21 hown1 (R2.out.on (hbw.trans (hb1.mono hbs)))
            have hb3 : Below w.heap.size w w2 := hbw.trans ((hb1.mono hbs).trans (hb2.mono hbs))
            have hrd2 := hown2.rd
            clear hown1 hgrow1 hb2
            go_wp2
            go_meet
            case rel => exact ⟨_, _, rfl, hrd2, hb3⟩
        case rest =>
          clear hbw R0 R1 R2
          obtain ⟨qo, qc, rfl, rq, hbw⟩ := hcut
          obtain ⟨W0, rfl⟩ : ∃ W0 : World, W0 = wc := ⟨_, rfl⟩
          go_upto_if 76 with fail
          go_cut [14] from 22 (fun v wx => v = .int .i64 (lo : Int) ∧ wx = W0)
          case first =>
            rcases (show n < q ∨ q ≤ n from by omega) with hqn | hqn
            · go_wp2
              go_meet
              case rel => exact ⟨by rw [HLO.out, Nat.min_eq_right (by omega)], rfl⟩
            · go_wp2
              go_meet
              case rel => exact ⟨by rw [HLO.out, Nat.min_eq_left (by omega)], rfl⟩
          case rest =>
            obtain ⟨rfl, hw⟩ := hcut
            subst hw
            have s0 := hbw.size
            go_wp2_with fail
            refine (clone_any a3 n c3 P wc (R3.out.on hbw) k3).mono ?_
            rintro e w1 ⟨pa, pac, rfl, oa1, b1⟩
            have s1 := b1.size
            go_wp2_with fail
            refine (clone_any a4 m c4 R w1 (R4.out.on (hbw.trans (b1.mono s0))) k4).mono ?_
            rintro e w2 ⟨rr, rrc, rfl, or2, b2⟩
            have s2 := b2.size
            have oa2 : Own wc.heap.size w2 pa n pac P := oa1.on b2 (fun g e => (oa1.lt g e).2)
            have rq2 := (rq.on b1).on b2
            go_wp2_with fail
            refine (links_any fo no fl fc nl nc qo pa rr q qc n pac m rrc Q P R wc.heap.size w1.heap.size w2 rq2 oa2 or2 s1 s2 (fun g e => (oa1.lt g e).2) k3).mono ?_
            obtain ⟨X, hX⟩ : ∃ X, X = over Q P := ⟨_, rfl⟩
            rw [← hX]
            obtain ⟨z, hz⟩ : ∃ z, z = (Z X n).length := ⟨_, rfl⟩
            rw [← hz]
            have hzn : z ≤ n := by rw [hz]; exact Z_length_le X n
            have HX := Lib.hid hX
            have HZ := Lib.hid hz
            clear hX hz
            rintro e w3 ⟨ra, rac, rfl, oa3, ora3, b3⟩
            have s3 := b3.size
            have b03 : Below wc.heap.size wc w3 := b1.trans ((b2.mono s1).trans b3)
            clear oa1 or2 oa2 rq2
            go_wp2_with fail
            refine (clone_any a3 n c3 P w3 (R3.out.on (hbw.trans (b03.mono s0))) k3).mono ?_
            rintro e w4 ⟨pb, pbc, rfl, ob4, b4⟩
            have s4 := b4.size
            have b04 : Below wc.heap.size wc w4 := b03.trans (b4.mono (by omega))
            go_wp2_with fail
            have hL5 := links_any none none 0 0 0 0 qo pb none q qc n pbc 0 0 Q P [] w3.heap.size w4.heap.size w4 (rq.on b04) ob4 (World.ownsRow_nil _ _ _ _) s4 (Nat.le_refl _) (fun g e => (ob4.lt g e).2) k3
            rw [← HX.out, ← HZ.out] at hL5
            refine hL5.mono ?_
            clear hL5
            rintro e w5 ⟨rb, rbc, rfl, ob5, orb5, b5⟩
            have s5 := b5.size
            have b35 : Below w3.heap.size w3 w5 := b4.trans b5
            have b05 : Below wc.heap.size wc w5 := b03.trans (b35.mono (by omega))
            have pa5 := oa3.rd.on b35
            have ra5 := ora3.rd.on b35
            have pb5 := ob5.rd
            have rb5 := orb5.rd
            clear ob4 oa3 ora3 ob5 orb5
            go_wp2_with fail
            refine (clone_any pa n pac X w5 pa5 k3).mono ?_
            rintro e w6 ⟨pc, pcc, rfl, oc6, b6⟩
            have s6 := b6.size
            go_wp2_with fail
            refine (clone_any pa n pac X w6 (pa5.on b6) k3).mono ?_
            rintro e w7 ⟨pd, pdc, rfl, od7, b7⟩
            have s7 := b7.size
            have b57 : Below w5.heap.size w5 w7 := b6.trans (b7.mono s6)
            go_wp2_with fail
            refine (clone_any ra z rac (Z X n) w7 (ra5.on b57) (by omega)).mono ?_
            rintro e w8 ⟨re, rec, rfl, oe8, b8⟩
            have s8 := b8.size
            have b58 : Below w5.heap.size w5 w8 := b57.trans (b8.mono (by omega))
            have oc8 : Own w5.heap.size w8 pc n pcc X := (oc6.on b7 (fun g e => (oc6.lt g e).2)).on b8 (fun g e => by have := (oc6.lt g e).2; omega)
            go_wp2_with fail
            have hL9 := links_any fo no fl fc nl nc pd pc re n pdc n pcc z rec X X (Z X n) w5.heap.size w7.heap.size w8 (od7.rd.on b8) oc8 oe8 (by omega) s8 (fun g e => by have := (oc6.lt g e).2; omega) k3
            rw [over_self, ← HZ.out] at hL9
            refine hL9.mono ?_
            clear hL9
            rintro e w9 ⟨rc, rcc, rfl, oc9, orc9, b9⟩
            have b59 : Below w5.heap.size w5 w9 := b58.trans b9
            have pa9 := pa5.on b59
            have ra9 := ra5.on b59
            have pb9 := pb5.on b59
            have rb9 := rb5.on b59
            have pc9 := oc9.rd
            have rc9 := orc9.rd
            have b09 : Below wc.heap.size wc w9 := b05.trans (b59.mono b05.size)
            have rq9 := rq.on b09
            have bw9 : Below w.heap.size w w9 := hbw.trans (b09.mono s0)
            have rp9 := R3.out.on bw9
            clear oc6 od7 oe8 oc8 oc9 orc9 pa5 ra5 pb5 rb5 b59 b58 b57 b9 b8 b7 b6 b35 b05 b5 b04 b4 b03 b3 b2 b1 b09 rq hbw R3 R4
            go_wp2_with fail
            refine (same_any pa pb n pac pbc X w9 pa9 pb9 k3).mono ?_
            rintro e w10 ⟨rfl, m1, rfl⟩
            go_wp2_with fail
            refine (same_any ra rb z rac rbc (Z X n) _ (ra9.drewN m1) (rb9.drewN m1) (by omega)).mono ?_
            rintro e w10 ⟨rfl, m2, rfl⟩
            go_wp2_with fail
            refine (same_any pc pa n pcc pac X _ (pc9.drewN (m1 + m2)) (pa9.drewN (m1 + m2)) k3).mono ?_
            rintro e w10 ⟨rfl, m3, rfl⟩
            go_wp2_with fail
            refine (same_any rc ra z rcc rac (Z X n) _ (rc9.drewN (m1 + m2 + m3)) (ra9.drewN (m1 + m2 + m3)) (by omega)).mono ?_
            rintro e w10 ⟨rfl, m4, rfl⟩
            go_wp2_with fail
            have rqW := rq9.drewN (m1 + m2 + m3 + m4)
            have rpW := rp9.drewN (m1 + m2 + m3 + m4)
            have bwW : Below w.heap.size w (w9.drewN (m1 + m2 + m3 + m4)) := bw9.trans ⟨rfl, rfl, rfl, Nat.le_refl _, fun _ _ => rfl⟩
            obtain ⟨W, hW⟩ : ∃ W, W = w9.drewN (m1 + m2 + m3 + m4) := ⟨_, rfl⟩
            rw [← hW] at rqW rpW bwW ⊢
            have hqle := rqW.le
            have hple := rpW.le
            have hlaw : z = cntZ (Q.take lo) lo + cntZ (P.drop lo) (n - lo) := by
              rw [HZ.out, HX.out]
              exact zeros_parts Q P n lo rpW.len (by rw [HLO.out, rqW.len])
            have hc1 := cntZ_le (Q.take lo) lo
            have hc2 := cntZ_le (P.drop lo) (n - lo)
            have hpN := rpW.nil
            have hqN := rqW.nil
            have hpM := rpW.max
            have HQ := Lib.hid rqW
            have HP := Lib.hid rpW
            have HB := Lib.hid bwW
            clear hW pa9 ra9 pb9 rb9 pc9 rc9 rq9 rp9 bw9 rqW rpW bwW HX HZ HLO
            have hzq : ∀ u : Nat, Calls Try.prog 8 #[.slice qo lo qc] (W.drewN u) fun e w' => e = .returned (.int .i64 (cntZ (Q.take lo) lo)) ∧ w' = W.drewN u := by
              refine fun u => zeros_any qo lo qc (Q.take lo) _ ?_ (by omega)
              cases qo with
              | none =>
                obtain ⟨h1, h2⟩ := hqN rfl
                obtain rfl : lo = 0 := by omega
                exact (Rd.empty (W.drewN u) none qc (by unfold maxLen; omega) (fun _ => h2)).congr (by simp)
              | some qa => exact (HQ.out.take lo hlq).drewN u
            have hzp0 : ∀ ao, (¬ c3 = lo → ∀ ad, a3 = some ad → ao = some (ad.add lo)) → ∀ u : Nat, Calls Try.prog 8 #[.slice ao (n - lo) (c3 - lo)] (W.drewN u) fun e w' => e = .returned (.int .i64 (cntZ (P.drop lo) (n - lo))) ∧ w' = W.drewN u := by
              intro ao h2 u
              refine zeros_any ao (n - lo) (c3 - lo) (P.drop lo) _ ?_ (by omega)
              have hPl := HP.out.len
              by_cases hc : c3 = lo
              · have e0 : n - lo = 0 := by omega
                have e1 : c3 - lo = 0 := by omega
                rw [e0, e1]
                exact (Rd.empty (W.drewN u) ao 0 (by unfold maxLen; omega) (fun _ => rfl)).congr (by rw [List.drop_of_length_le (by omega)])
              · cases a3 with
                | none => have := (hpN rfl); omega
                | some ad =>
                  rw [h2 hc ad rfl]
                  exact (HP.out.drop lo hln).drewN u
            have HZQ := Lib.hid hzq
            have HZP := Lib.hid hzp0
            have hli : (lo : Int) ≤ (n : Int) := by omega
            have hlqi : (lo : Int) ≤ (qc : Int) := by omega
            have HLAW := Lib.hid hlaw
            have hlaw' : ((z : Int) != (cntZ (Q.take lo) lo : Int) + (cntZ (P.drop lo) (n - lo) : Int)) = false := by simp; omega
            clear hzq hzp0 hlaw HQ HP
            obtain ⟨A, hA⟩ : ∃ A, A = cntZ (Q.take lo) lo := ⟨_, rfl⟩
            obtain ⟨C, hC⟩ : ∃ C, C = cntZ (P.drop lo) (n - lo) := ⟨_, rfl⟩
            rw [← hA] at hc1 HZQ hlaw' HLAW
            rw [← hC] at hc2 HZP hlaw' HLAW
            clear hA hC
            have hfin : ∀ u, Below w.heap.size w (W.drewN u) := fun u => HB.out.trans ⟨rfl, rfl, rfl, Nat.le_refl _, fun _ _ => rfl⟩
            have HF := Lib.hid hfin
            clear hfin HB
            cases qo with
            | none =>
              obtain ⟨rfl, rfl⟩ := hqN rfl
              obtain rfl : lo = 0 := by omega
              cases a3 with
              | none =>
                obtain ⟨rfl, rfl⟩ := hpN rfl
                have hlaw2 : ((z : Int) != (A : Int) + (A : Int)) = false := by have := HLAW.out; simp; omega
                clear HZP hpN hqN hlaw'
                go_quiet ((go_at_call 8; refine Calls.quiet_of_same (HZQ.out _)))
                go_wp2
                all_goals
                  go_ret
                  exact ⟨rfl, HF.out _⟩
              | some x =>
                have HZP2 : Hid (∀ u : Nat, Calls Try.prog 8 #[.slice (some x) n c3] (W.drewN u) fun e w' => e = .returned (.int .i64 C) ∧ w' = W.drewN u) := HZP.out (some x) (fun h ad e => by cases e; simp [Addr.add])
                clear HZP hpN hqN
                go_quiet (first | (go_at_call_of 8 (Value.slice (some x) n c3); refine Calls.quiet_of_same (HZP2.out _)) | (go_at_call 8; refine Calls.quiet_of_same (HZQ.out _)))
                go_wp2
                all_goals
                  go_ret
                  exact ⟨rfl, HF.out _⟩
            | some qa =>
              cases a3 with
              | none =>
                obtain ⟨rfl, rfl⟩ := hpN rfl
                obtain rfl : lo = 0 := by omega
                have HZP2 := Lib.hid (HZP.out none (fun h ad e => by cases e))
                clear HZP hpN hqN
                go_quiet (first | (go_at_call_of 8 (Value.slice (some qa) 0 qc); refine Calls.quiet_of_same (HZQ.out _)) | (go_at_call 8; refine Calls.quiet_of_same (HZP2.out _)))
                go_wp2
                all_goals
                  go_ret
                  exact ⟨rfl, HF.out _⟩
              | some x =>
                have HZP2 := Lib.hid (HZP.out (if c3 = lo then some x else some (x.add lo)) (fun h ad e => by rw [if_neg h]; cases e; rfl))
                clear HZP hpN hqN
                go_quiet (first | (go_at_call_of 8 (Value.slice (some qa) lo qc); refine Calls.quiet_of_same (HZQ.out _)) | (go_at_call 8; refine Calls.quiet_of_same (HZP2.out _)))
                go_wp2
                all_goals
                  go_ret
                  exact ⟨rfl, HF.out _⟩

end Go.Proofs.Qxb6632546a
