/-
  SEAT b6632546a: FnStartSplitsAtAnyCut: the calls.
-/
import Derived.Test.Qxb6632546aWalk2
import Derived.Test.Qxb6632546aRowy2
import Derived.Deep.CutRange
import Derived.Deep.RegionWith
namespace Go.Proofs.Qxb6632546a
open Go Go.RowKit

set_option maxRecDepth 100000 in
/-- Too long, or the cut out of range: true at once. -/
theorem spl_long (a0 a1 a2 a3 a4 : Option Addr) (n0 n1 n2 n3 n4 c0 c1 c2 c3 c4 : Nat) (k : Int) (h0 : n0 ≤ maxLen) (h1 : n1 ≤ maxLen) (h2 : n2 ≤ maxLen) (h3 : n3 ≤ maxLen) (h4 : n4 ≤ maxLen) (w : World)
    (h : 32768 < n0 ∨ 32768 < n1 ∨ 32768 < n2 ∨ 32768 < n3 ∨ 32768 < n4 ∨ k < 0 ∨ (n3 : Int) < k) :
    Calls Try.prog 3 #[.slice a0 n0 c0, .slice a1 n1 c1, .slice a2 n2 c2, .slice a3 n3 c3, .slice a4 n4 c4, .int .i64 k] w fun e w' => e = .returned (.bool true) ∧ Below w.heap.size w w' := by
  rcases (show 32768 < n0 ∨ (n0 ≤ 32768 ∧ 32768 < n1) ∨ (n0 ≤ 32768 ∧ n1 ≤ 32768 ∧ 32768 < n2) ∨ (n0 ≤ 32768 ∧ n1 ≤ 32768 ∧ n2 ≤ 32768 ∧ 32768 < n3) ∨ (n0 ≤ 32768 ∧ n1 ≤ 32768 ∧ n2 ≤ 32768 ∧ n3 ≤ 32768 ∧ 32768 < n4) ∨ (n0 ≤ 32768 ∧ n1 ≤ 32768 ∧ n2 ≤ 32768 ∧ n3 ≤ 32768 ∧ n4 ≤ 32768 ∧ k < 0) ∨ (n0 ≤ 32768 ∧ n1 ≤ 32768 ∧ n2 ≤ 32768 ∧ n3 ≤ 32768 ∧ n4 ≤ 32768 ∧ 0 ≤ k ∧ (n3 : Int) < k) from by omega) with k0 | ⟨k0, k1⟩ | ⟨k0, k1, k2⟩ | ⟨k0, k1, k2, k3⟩ | ⟨k0, k1, k2, k3, k4⟩ | ⟨k0, k1, k2, k3, k4, k5⟩ | ⟨k0, k1, k2, k3, k4, k5, k6⟩
  all_goals
    clear h
    go_enter Try.func3, Try.ntmps3
    go_wp2_with (go_at_call 5; refine (bytes5 a0 a1 a2 a3 a4 n0 n1 n2 n3 n4 c0 c1 c2 c3 c4 k h0 h1 h2 h3 h4 _).mono ?_; rintro e w' ⟨⟨t, rfl⟩, hw⟩; obtain rfl := hw.symm; cases t)
    all_goals
      go_ret
      exact ⟨rfl, Below.refl _ _⟩

theorem below_undrew {B : Nat} {w w' : World} (h : Below B w.drew w') : Below B w w' := ⟨h.os, h.tape, h.output, h.size, h.block⟩

/-- start on a part: the calls of one statement. -/
theorem left_call (fo no : Option Addr) (fl fc nl nc : Nat) (qo po ro : Option Addr) (q qc n pc m rc : Nat) (Q P R : List Int) (B : Nat) (w w5 : World) (zl : Nat) (XL : List Int) (hq : Rd w qo q qc Q) (hp : Own B w po n pc P) (hr : Own w.heap.size w5 ro m rc R)
    (b5 : Below w.heap.size w w5) (hB : B ≤ w.heap.size) (hn : n ≤ 32768) (HX : Hid (over Q P = XL)) (HZ : Hid (zl = (Z XL n).length)) :
    Calls Try.prog 7 #[.slice fo fl fc, .slice no nl nc, .slice qo q qc, .slice po n pc, .slice ro m rc] w5 fun e w' => ∃ ao cap, e = .returned (.slice ao zl cap) ∧
      Rd w' po n pc XL ∧ Rd w' ao zl cap (Z XL n) ∧ Below B w w' := by
  have h := links_any fo no fl fc nl nc qo po ro q qc n pc m rc Q P R B w.heap.size w5 (hq.on b5) (hp.on b5 (fun g e => (hp.lt g e).2)) hr hB b5.size (fun g e => (hp.lt g e).2) hn
  rw [HX.out, ← HZ.out] at h
  exact h.mono fun e w' ⟨ao, cap, he, h1, h2, h3⟩ => ⟨ao, cap, he, h1.rd, h2.rd, (b5.mono hB).trans h3⟩

set_option maxRecDepth 100000 in
set_option maxHeartbeats 8000000 in
theorem spl_short (a0 a1 a2 a3 a4 : Option Addr) (n0 n1 q n m c0 c1 c2 c3 c4 k : Nat) (L0 L1 Q P R : List Int) (w : World)
    (r0 : Rd w a0 n0 c0 L0) (r1 : Rd w a1 n1 c1 L1) (r2 : Rd w a2 q c2 Q) (r3 : Rd w a3 n c3 P) (r4 : Rd w a4 m c4 R) (k0 : n0 ≤ 32768) (k1 : n1 ≤ 32768) (k2 : q ≤ 32768) (k3 : n ≤ 32768) (k4 : m ≤ 32768) (hk : k ≤ n) :
    Calls Try.prog 3 #[.slice a0 n0 c0, .slice a1 n1 c1, .slice a2 q c2, .slice a3 n c3, .slice a4 m c4, .int .i64 k] w fun e w' => e = .returned (.bool true) ∧ Below w.heap.size w w' := by
  have hnn := fun (w : World) a n c => run_neq_slice_nil_any (P := Try.prog) w 22 21 a n c 0 0 Try.underlying22
  obtain ⟨i0, hi, hz0, hz1, hz2⟩ := info_parts info21
  have R0 : Hid (Rd w a0 n0 c0 L0) := r0
  have R1 : Hid (Rd w a1 n1 c1 L1) := r1
  have R2 : Hid (Rd w a2 q c2 Q) := r2
  have R3 : Hid (Rd w a3 n c3 P) := r3
  have R4 : Hid (Rd w a4 m c4 R) := r4
  clear r0 r1 r2 r3 r4
  obtain ⟨lo, hlo⟩ : ∃ lo, lo = min q n := ⟨_, rfl⟩
  have hlq : lo ≤ q := by omega
  have hln : lo ≤ n := by omega
  have HLO : Hid (lo = min q n) := hlo
  clear hlo
  obtain ⟨c, hc⟩ : ∃ c, c = min k q := ⟨_, rfl⟩
  have hck : c ≤ k := by omega
  have hcq : c ≤ q := by omega
  have HC : Hid (c = min k q) := hc
  clear hc
  have hbw := Below.refl w.heap.size w
  have d0 : decide ((32768 : Int) < (n0 : Int)) = false := by simp; omega
  have d1 : decide ((32768 : Int) < (n1 : Int)) = false := by simp; omega
  have d2 : decide ((32768 : Int) < (q : Int)) = false := by simp; omega
  have d3 : decide ((32768 : Int) < (n : Int)) = false := by simp; omega
  have d4 : decide ((32768 : Int) < (m : Int)) = false := by simp; omega
  have d5 : decide ((k : Int) < 0) = false := by simp
  have d6 : decide (n < k) = false := by simp; omega
  go_enter Try.func3, Try.ntmps3
  go_upto_if 64 with (go_at_call 5; refine (bytes5 a0 a1 a2 a3 a4 n0 n1 q n m c0 c1 c2 c3 c4 k (by unfold maxLen; omega) (by unfold maxLen; omega) (by unfold maxLen; omega) (by unfold maxLen; omega) (by unfold maxLen; omega) _).mono ?_; rintro e w' ⟨⟨t, rfl⟩, hw⟩; obtain rfl := hw.symm; cases t)
  · go_ret
    exact ⟨rfl, Below.refl _ _⟩
  · go_cut [0] from 63 to 71 (fun v wx => (∃ fo fl fc, v = .slice fo fl fc) ∧ Below w.heap.size w wx)
    case first =>
      have hbs := hbw.size
      cases a0 with
      | none =>
        obtain ⟨h0, h0'⟩ := R0.out.nil rfl
        go_wp2
        go_meet
        case rel => exact ⟨⟨_, _, _, rfl⟩, hbw⟩
      | some x =>
        go_wp2_with (at_make; refine wpList_make_full _ rfl _ _ 22 rfl w.heap.size 21 i0 (.int .i32 0) 1 Try.underlying22 hi hz0 hz1 _ _ _ _ n0 rfl rfl rfl rfl (by rw [hz2]; omega) (by unfold maxLen; omega) (Nat.le_refl _) ?_; intro w1 hown1 hgrow1; refine Hid.out ?_)
        refine Lib.hid ?_
        have hb1 : Below w.heap.size w w1 := (Below.refl _ _).grown hgrow1 (Nat.le_refl _) (by intro k hk; cases hk)
        obtain ⟨w2, mm, hcp, hown2, hb2⟩ := copy_new (P := Try.prog) (T := 22) Try.underlying22 size21 hown1 (R0.out.on (hbw.trans (hb1.mono hbs)))
        have hb3 : Below w.heap.size w w2 := hbw.trans ((hb1.mono hbs).trans (hb2.mono hbs))
        have hrd2 := hown2.rd
        clear hown1 hgrow1 hb2
        go_wp2
        go_meet
        case rel => exact ⟨⟨_, _, _, rfl⟩, hb3⟩
    case rest =>
      clear hbw
      obtain ⟨⟨fo, fl, fc, rfl⟩, hbw⟩ := hcut
      go_upto_if 73 with fail
      go_cut [1] from 72 to 80 (fun v wx => (∃ no nl nc, v = .slice no nl nc) ∧ Below w.heap.size w wx)
      case first =>
        have hbs := hbw.size
        cases a1 with
        | none =>
          obtain ⟨h0, h0'⟩ := R1.out.nil rfl
          go_wp2
          go_meet
          case rel => exact ⟨⟨_, _, _, rfl⟩, hbw⟩
        | some x =>
          go_wp2_with (at_make; refine wpList_make_full _ rfl _ _ 22 rfl wc.heap.size 21 i0 (.int .i32 0) 1 Try.underlying22 hi hz0 hz1 _ _ _ _ n1 rfl rfl rfl rfl (by rw [hz2]; omega) (by unfold maxLen; omega) (Nat.le_refl _) ?_; intro w1 hown1 hgrow1; refine Hid.out ?_)
          refine Lib.hid ?_
          have hb1 : Below wc.heap.size wc w1 := (Below.refl _ _).grown hgrow1 (Nat.le_refl _) (by intro k hk; cases hk)
          obtain ⟨w2, mm, hcp, hown2, hb2⟩ := copy_new (P := Try.prog) (T := 22) Try.underlying22 size21 hown1 (R1.out.on (hbw.trans (hb1.mono hbs)))
          have hb3 : Below w.heap.size w w2 := hbw.trans ((hb1.mono hbs).trans (hb2.mono hbs))
          have hrd2 := hown2.rd
          clear hown1 hgrow1 hb2
          go_wp2
          go_meet
          case rel => exact ⟨⟨_, _, _, rfl⟩, hb3⟩
      case rest =>
        clear hbw
        obtain ⟨⟨no, nl, nc, rfl⟩, hbw⟩ := hcut
        go_upto_if 82 with fail
        go_cut [2] from 81 to 89 (fun v wx => ∃ qo qc, v = .slice qo q qc ∧ Rd wx qo q qc Q ∧ Below w.heap.size w wx)
        case first =>
          have hbs := hbw.size
          cases a2 with
          | none =>
            obtain ⟨h0, h0'⟩ := R2.out.nil rfl
            go_wp2
            go_meet
            case rel => exact ⟨_, _, rfl, R2.out.on hbw, hbw⟩
          | some x =>
            go_wp2_with (at_make; refine wpList_make_full _ rfl _ _ 22 rfl wc.heap.size 21 i0 (.int .i32 0) 1 Try.underlying22 hi hz0 hz1 _ _ _ _ q rfl rfl rfl rfl (by rw [hz2]; omega) (by unfold maxLen; omega) (Nat.le_refl _) ?_; intro w1 hown1 hgrow1; refine Hid.out ?_)
            refine Lib.hid ?_
            have hb1 : Below wc.heap.size wc w1 := (Below.refl _ _).grown hgrow1 (Nat.le_refl _) (by intro k hk; cases hk)
            obtain ⟨w2, mm, hcp, hown2, hb2⟩ := copy_new (P := Try.prog) (T := 22) Try.underlying22 size21 hown1 (R2.out.on (hbw.trans (hb1.mono hbs)))
            have hb3 : Below w.heap.size w w2 := hbw.trans ((hb1.mono hbs).trans (hb2.mono hbs))
            have hrd2 := hown2.rd
            clear hown1 hgrow1 hb2
            go_wp2
            go_meet
            case rel => exact ⟨_, _, rfl, hrd2, hb3⟩
        case rest =>
          clear hbw R0 R1 R2
          obtain ⟨qo, qc, rfl, rq, hbw⟩ := hcut
          obtain ⟨W0, rfl⟩ : ∃ W0 : World, W0 = wc := ⟨_, rfl⟩
          go_upto_if 96 with fail
          go_cut [17] from 94 to 97 (fun v wx => v = .int .i64 (lo : Int) ∧ wx = W0)
          case first =>
            rcases (show n < q ∨ q ≤ n from by omega) with hqn | hqn
            · go_wp2
              go_meet
              case rel => exact ⟨by rw [HLO.out, Nat.min_eq_right (by omega)], rfl⟩
            · go_wp2
              go_meet
              case rel => exact ⟨by rw [HLO.out, Nat.min_eq_left (by omega)], rfl⟩
          case rest =>
            obtain ⟨rfl, hw⟩ := hcut
            subst hw
            obtain ⟨W0, rfl⟩ : ∃ W0 : World, W0 = wc := ⟨_, rfl⟩
            go_upto_if 102 with fail
            go_cut [18] from 99 to 104 (fun v wx => v = .int .i64 (c : Int) ∧ wx = W0)
            case first =>
              rcases (show q < k ∨ k ≤ q from by omega) with hqn | hqn
              · go_wp2
                go_meet
                case rel => exact ⟨by rw [HC.out, Nat.min_eq_right (by omega)], rfl⟩
              · go_wp2
                go_meet
                case rel => exact ⟨by rw [HC.out, Nat.min_eq_left (by omega)], rfl⟩
            case rest =>
              obtain ⟨rfl, hw⟩ := hcut
              subst hw
              obtain ⟨X, hX⟩ : ∃ X, X = over Q P := ⟨_, rfl⟩
              have hPn : n = P.length := R3.out.len
              have hQn : q = Q.length := rq.len
              have HXL : Hid (over (Q.take c) (P.take k) = X.take k) := by rw [hX]; exact over_take Q P k c (by omega) (by rw [HC.out, hQn])
              have HXR : Hid (over (Q.drop c) (P.drop k) = X.drop k) := by rw [hX]; exact over_drop Q P k c (by omega) (by rw [HC.out, hQn])
              have HX := Lib.hid hX
              have HPn := Lib.hid hPn
              have HQn := Lib.hid hQn
              clear hX hPn hQn
              have s0 := hbw.size
              go_wp2_with fail
              refine (clone_any a3 n c3 P wc (R3.out.on hbw) k3).mono ?_
              rintro e w1 ⟨pa, pac, rfl, oa1, b1⟩
              have s1 := b1.size
              go_wp2_with fail
              refine (clone_any a4 m c4 R w1 (R4.out.on (hbw.trans (b1.mono s0))) k4).mono ?_
              rintro e w2 ⟨rr, rrc, rfl, or2, b2⟩
              have s2 := b2.size
              have oa2 : Own wc.heap.size w2 pa n pac P := oa1.on b2 (fun g e => (oa1.lt g e).2)
              have rq2 := (rq.on b1).on b2
              go_wp2_with fail
              have hL3 := links_any fo no fl fc nl nc qo pa rr q qc n pac m rrc Q P R wc.heap.size w1.heap.size w2 rq2 oa2 or2 s1 s2 (fun g e => (oa1.lt g e).2) k3
              rw [← HX.out] at hL3
              refine hL3.mono ?_
              clear hL3
              obtain ⟨z, hz⟩ : ∃ z, z = (Z X n).length := ⟨_, rfl⟩
              rw [← hz]
              have hzn : z ≤ n := by rw [hz]; exact Z_length_le X n
              have HZ := Lib.hid hz
              clear hz
              rintro e w3 ⟨wv, wvc, rfl, oa3, ora3, b3⟩
              have s3 := b3.size
              have b03 : Below wc.heap.size wc w3 := b1.trans ((b2.mono s1).trans b3)
              have bw3 : Below w.heap.size w w3 := hbw.trans (b03.mono s0)
              have rq3 := rq.on b03
              have pa3 := oa3.rd
              have wv3 := ora3.rd
              clear oa1 or2 oa2 rq2 rq oa3 ora3 b03 b3 b2 b1 hbw s0 s1 s2 s3
              obtain ⟨V, rfl⟩ : ∃ V : World, V = w3 := ⟨_, rfl⟩
              go_upto_region 36 with fail
              go_cut [21] from 114 to 117 (fun v wx => ∃ lp lpc, v = .slice lp k lpc ∧ Own V.heap.size wx lp k lpc (P.take k) ∧ Below V.heap.size V wx)
              case first =>
                cases a3 with
                | none =>
                  obtain ⟨rfl, rfl⟩ := R3.out.nil rfl
                  obtain rfl : k = 0 := by omega
                  go_wp2_with fail
                  refine (clone_any none 0 0 (P.take 0) V ((Rd.empty V none 0 (by unfold maxLen; omega) (fun _ => rfl)).congr (by simp)) (by omega)).mono ?_
                  rintro e w4 ⟨lp, lpc, rfl, o4, b4⟩
                  go_wp2
                  go_meet
                  case rel => exact ⟨lp, lpc, rfl, o4, b4⟩
                | some x =>
                  have hle := (R3.out.on bw3).le
                  have hki : (k : Int) ≤ (c3 : Int) := by omega
                  have rk : Rd V (some x) k c3 (P.take k) := (R3.out.on bw3).take k hk
                  go_wp2_with fail
                  refine (clone_any (some x) k c3 (P.take k) V rk (by omega)).mono ?_
                  rintro e w4 ⟨lp, lpc, rfl, o4, b4⟩
                  go_wp2
                  go_meet
                  case rel => exact ⟨lp, lpc, rfl, o4, b4⟩
              case rest =>
                obtain ⟨lp, lpc, rfl, o4, b4⟩ := hcut
                have s4 := b4.size
                obtain ⟨V4, rfl⟩ : ∃ V4 : World, V4 = wc := ⟨_, rfl⟩
                have rq4 := rq3.on b4
                have r44 := R4.out.on (bw3.trans (b4.mono bw3.size))
                obtain ⟨zl, hzl⟩ : ∃ zl, zl = (Z (X.take k) k).length := ⟨_, rfl⟩
                have hzlk : zl ≤ k := by rw [hzl]; exact Z_length_le _ k
                have HZL := Lib.hid hzl
                clear hzl
                go_upto_region 37 with fail
                go_cut [22] from 118 to 126 (fun v wx => ∃ lv lvc, v = .slice lv zl lvc ∧ Rd wx lp k lpc (X.take k) ∧ Rd wx lv zl lvc (Z (X.take k) k) ∧ Below V.heap.size V wx)
                case first =>
                  cases qo with
                  | none =>
                    obtain ⟨rfl, rfl⟩ := rq4.nil rfl
                    obtain rfl : c = 0 := by omega
                    have rqc : Rd V4 none 0 0 (Q.take 0) := (Rd.empty V4 none 0 (by unfold maxLen; omega) (fun _ => rfl)).congr (by simp)
                    go_region_with (first
                      | (go_at_call 6; refine (clone_any a4 m c4 R _ ?_ k4).mono ?_; exact r44.drewN 1; rintro e w5 ⟨rr, rrc, rfl, or5, b5⟩)
                      | (go_at_call 7; refine (left_call fo no fl fc nl nc none lp rr 0 0 k lpc m rrc (Q.take 0) (P.take k) R V.heap.size V4 w5 zl (X.take k) rqc o4 or5 (below_undrew b5) s4 (by omega) HXL HZL).mono ?_; rintro e w6 ⟨lv, lvc, rfl, p6, v6, b6⟩))
                    all_goals
                      go_wp2
                      go_meet
                      case rel => exact ⟨lv, lvc, rfl, p6, v6, b4.trans b6⟩
                  | some qa =>
                    have hle := rq4.le
                    have hki : (c : Int) ≤ (qc : Int) := by omega
                    have rqc : Rd V4 (some qa) c qc (Q.take c) := rq4.take c hcq
                    go_region_with (first
                      | (go_at_call 6; refine (clone_any a4 m c4 R _ ?_ k4).mono ?_; exact r44.drewN 1; rintro e w5 ⟨rr, rrc, rfl, or5, b5⟩)
                      | (go_at_call 7; refine (left_call fo no fl fc nl nc (some qa) lp rr c qc k lpc m rrc (Q.take c) (P.take k) R V.heap.size V4 w5 zl (X.take k) rqc o4 or5 (below_undrew b5) s4 (by omega) HXL HZL).mono ?_; rintro e w6 ⟨lv, lvc, rfl, p6, v6, b6⟩))
                    all_goals
                      go_wp2
                      go_meet
                      case rel => exact ⟨lv, lvc, rfl, p6, v6, b4.trans b6⟩
                case rest =>
                  clear o4 b4 rq4 r44 s4
                  obtain ⟨lv, lvc, rfl, lp5, lv5, b5⟩ := hcut
                  have s5 := b5.size
                  obtain ⟨V5, rfl⟩ : ∃ V5 : World, V5 = wc := ⟨_, rfl⟩
                  have bw5 : Below w.heap.size w V5 := bw3.trans (b5.mono bw3.size)
                  go_upto_region 38 with fail
                  go_cut [23] from 127 to 130 (fun v wx => ∃ rp rpc, v = .slice rp (n - k) rpc ∧ Own V5.heap.size wx rp (n - k) rpc (P.drop k) ∧ Below V5.heap.size V5 wx)
                  case first =>
                    cases a3 with
                    | none =>
                      obtain ⟨rfl, rfl⟩ := R3.out.nil rfl
                      obtain rfl : k = 0 := by omega
                      go_wp2_with fail
                      refine (clone_any none 0 0 (P.drop 0) V5 ((Rd.empty V5 none 0 (by unfold maxLen; omega) (fun _ => rfl)).congr (by rw [List.drop_zero]; exact (List.eq_nil_of_length_eq_zero R3.out.len.symm).symm)) (by omega)).mono ?_
                      rintro e w4 ⟨lp', lpc', rfl, o4, b4⟩
                      go_wp2
                      go_meet
                      case rel => exact ⟨lp', lpc', rfl, o4, b4⟩
                    | some x =>
                      have hle := (R3.out.on bw5).le
                      have hki : (k : Int) ≤ (n : Int) := by omega
                      by_cases hc : c3 = k
                      · obtain rfl : n = k := by omega
                        subst hc
                        go_wp2_with fail
                        refine (clone_any (some x) 0 0 (P.drop c3) V5 ((Rd.empty V5 (some x) 0 (by unfold maxLen; omega) (fun _ => rfl)).congr (by rw [List.drop_of_length_le (by have := R3.out.len; omega)])) (by omega)).mono ?_
                        rintro e w4 ⟨lp', lpc', rfl, o4, b4⟩
                        go_wp2
                        go_meet
                        case rel => exact ⟨lp', lpc', by rw [Nat.sub_self], by rw [Nat.sub_self]; exact o4, b4⟩
                      · have rk : Rd V5 (some (x.add k)) (n - k) (c3 - k) (P.drop k) := (R3.out.on bw5).drop k hk
                        go_wp2_with fail
                        refine (clone_any (some (x.add k)) (n - k) (c3 - k) (P.drop k) V5 rk (by omega)).mono ?_
                        rintro e w4 ⟨lp', lpc', rfl, o4, b4⟩
                        go_wp2
                        go_meet
                        case rel => exact ⟨lp', lpc', rfl, o4, b4⟩
                  case rest =>
                    obtain ⟨rp, rpc, rfl, o6, b6⟩ := hcut
                    have s6 := b6.size
                    obtain ⟨V6, rfl⟩ : ∃ V6 : World, V6 = wc := ⟨_, rfl⟩
                    have b36 : Below V.heap.size V V6 := b5.trans (b6.mono s5)
                    have rq6 := rq3.on b36
                    have r46 := R4.out.on (bw5.trans (b6.mono bw5.size))
                    obtain ⟨zr, hzr⟩ : ∃ zr, zr = (Z (X.drop k) (n - k)).length := ⟨_, rfl⟩
                    have hzrk : zr ≤ n - k := by rw [hzr]; exact Z_length_le _ _
                    have HZR := Lib.hid hzr
                    clear hzr
                    go_upto_region 39 with fail
                    go_cut [24] from 131 to 139 (fun v wx => ∃ rv rvc, v = .slice rv zr rvc ∧ Rd wx rp (n - k) rpc (X.drop k) ∧ Rd wx rv zr rvc (Z (X.drop k) (n - k)) ∧ Below V5.heap.size V5 wx)
                    case first =>
                      cases qo with
                      | none =>
                        obtain ⟨rfl, rfl⟩ := rq6.nil rfl
                        obtain rfl : c = 0 := by omega
                        have rqc : Rd V6 none 0 0 (Q.drop 0) := (Rd.empty V6 none 0 (by unfold maxLen; omega) (fun _ => rfl)).congr (by rw [List.drop_zero]; exact (List.eq_nil_of_length_eq_zero HQn.out.symm).symm)
                        go_region_with (first
                          | (go_at_call 6; refine (clone_any a4 m c4 R _ ?_ k4).mono ?_; exact r46.drewN 1; rintro e w5 ⟨rr, rrc, rfl, or5, b7⟩)
                          | (go_at_call 7; refine (left_call fo no fl fc nl nc none rp rr 0 0 (n - k) rpc m rrc (Q.drop 0) (P.drop k) R V5.heap.size V6 w5 zr (X.drop k) rqc o6 or5 (below_undrew b7) s6 (by omega) HXR HZR).mono ?_; rintro e w6 ⟨rv, rvc, rfl, p6, v6, b8⟩))
                        all_goals
                          go_wp2
                          go_meet
                          case rel => exact ⟨rv, rvc, rfl, p6, v6, b6.trans b8⟩
                      | some qa =>
                        have hle := rq6.le
                        have hki : (c : Int) ≤ (q : Int) := by omega
                        by_cases hc : qc = c
                        · obtain rfl : q = c := by omega
                          subst hc
                          have rqc : Rd V6 (some qa) 0 0 (Q.drop qc) := (Rd.empty V6 (some qa) 0 (by unfold maxLen; omega) (fun _ => rfl)).congr (by rw [List.drop_of_length_le (by have := HQn.out; omega)])
                          go_region_with (first
                            | (go_at_call 6; refine (clone_any a4 m c4 R _ ?_ k4).mono ?_; exact r46.drewN 1; rintro e w5 ⟨rr, rrc, rfl, or5, b7⟩)
                            | (go_at_call 7; refine (left_call fo no fl fc nl nc (some qa) rp rr 0 0 (n - k) rpc m rrc (Q.drop qc) (P.drop k) R V5.heap.size V6 w5 zr (X.drop k) rqc o6 or5 (below_undrew b7) s6 (by omega) HXR HZR).mono ?_; rintro e w6 ⟨rv, rvc, rfl, p6, v6, b8⟩))
                          all_goals
                            go_wp2
                            go_meet
                            case rel => exact ⟨rv, rvc, rfl, p6, v6, b6.trans b8⟩
                        · have rqc : Rd V6 (some (qa.add c)) (q - c) (qc - c) (Q.drop c) := rq6.drop c hcq
                          go_region_with (first
                            | (go_at_call 6; refine (clone_any a4 m c4 R _ ?_ k4).mono ?_; exact r46.drewN 1; rintro e w5 ⟨rr, rrc, rfl, or5, b7⟩)
                            | (go_at_call 7; refine (left_call fo no fl fc nl nc _ rp rr (q - c) (qc - c) (n - k) rpc m rrc (Q.drop c) (P.drop k) R V5.heap.size V6 w5 zr (X.drop k) rqc o6 or5 (below_undrew b7) s6 (by omega) HXR HZR).mono ?_; rintro e w6 ⟨rv, rvc, rfl, p6, v6, b8⟩))
                          all_goals
                            go_wp2
                            go_meet
                            case rel => exact ⟨rv, rvc, rfl, p6, v6, b6.trans b8⟩
                    case rest =>
                      clear o6 b6 rq6 r46 s6 b36
                      obtain ⟨rv, rvc, rfl, rp7, rv7, b7⟩ := hcut
                      obtain ⟨V7, rfl⟩ : ∃ V7 : World, V7 = wc := ⟨_, rfl⟩
                      have b37 : Below V.heap.size V V7 := b5.trans (b7.mono s5)
                      have bw7 : Below w.heap.size w V7 := bw3.trans (b37.mono bw3.size)
                      have pa7 := pa3.on b37
                      have wv7 := wv3.on b37
                      have rq7 := rq3.on b37
                      have lp7 := lp5.on b7
                      have lv7 := lv5.on b7
                      have p7 := R3.out.on bw7
                      clear pa3 wv3 rq3 lp5 lv5 b7 b5 bw3 bw5 s5 b37 R3 R4 HXL HXR
                      have hrl : ((n - k : Nat) : Int) = (n : Int) - (k : Int) := by omega
                      have hrb : (((n - k : Nat) : Int) != (n : Int) - (k : Int)) = false := by rw [hrl]; simp
                      have HF := Lib.hid bw7
                      have hXn : X.length = n := by rw [HX.out, over_length, HPn.out]
                      have HXN := Lib.hid hXn
                      have HOV : Hid (∀ i, i < n → X.getD i 0 = if i < q then Q.getD i 0 else P.getD i 0) := by
                        intro i hi
                        rw [HX.out, over_getD Q P i (by rw [← HPn.out]; exact hi), HQn.out]
                      have hlen : z = zl + zr := by
                        rw [HZ.out, HZL.out, HZR.out]
                        have e := Z_split X k (n - k)
                        rw [show k + (n - k) = n by omega] at e
                        rw [e, List.length_append, List.length_map]
                        congr 2
                        exact Z_congr fun i hi => by simp only [List.getD, List.getElem?_take, if_pos hi]
                      have HLEN := Lib.hid hlen
                      have PA7 := Lib.hid pa7
                      have WV7 := Lib.hid wv7
                      have RQ7 := Lib.hid rq7
                      have LP7 := Lib.hid lp7
                      have LV7 := Lib.hid lv7
                      have RP7 := Lib.hid rp7
                      have RV7 := Lib.hid rv7
                      have P7 := Lib.hid p7
                      clear bw7 hXn hlen pa7 wv7 rq7 lp7 lv7 rp7 rv7 p7 hrl
                      go_wp2_with fail
                      -- the counts
                      go_loop [25] (fun i => ∃ j : Nat, j ≤ n ∧ i = .int .i64 j) (fun i => n - (intOf i).toNat)
                      case atStart => exact ⟨0, Nat.zero_le _, rfl⟩
                      case round =>
                        obtain ⟨j, hj, rfl⟩ := hrel
                        by_cases hjn : j < n
                        · obtain ⟨x, hx⟩ : ∃ x, x = X.getD j 0 := ⟨_, rfl⟩
                          have hov := HOV.out j hjn
                          rw [← hx] at hov
                          obtain ⟨b1, o1, rfl, -, h1⟩ := P7.out.place (by omega)
                          obtain ⟨b2, o2, rfl, -, h2⟩ := PA7.out.place (by omega)
                          have g1 := h1 j hjn
                          have g2 := h2 j hjn
                          rw [← hx] at g2
                          clear h1 h2 HF HLEN WV7 LV7 RV7 P7 PA7 HOV
                          rcases (show j < lo ∨ lo ≤ j from by omega) with hjl | hjl
                          · have hjq : j < q := by omega
                            obtain ⟨b3, o3, rfl, -, h3⟩ := RQ7.out.place (by omega)
                            have g3 := h3 j hjq
                            rw [if_pos hjq] at hov
                            rw [← hov] at g3
                            clear h3 RQ7
                            rcases (show j < k ∨ k ≤ j from by omega) with hjk | hjk
                            · obtain ⟨b4, o4, rfl, -, h4⟩ := LP7.out.place (by omega)
                              have g4 := h4 j hjk
                              have e4 : (X.take k).getD j 0 = x := by rw [hx]; simp only [List.getD, List.getElem?_take, if_pos hjk]
                              rw [e4] at g4
                              clear h4 e4 hx hov LP7 RP7
                              go_wp2
                              go_round
                              case rel => exact ⟨j + 1, by omega, by go_num⟩
                              case measure => simp [intOf]; omega
                            · obtain ⟨b4, o4, rfl, -, h4⟩ := RP7.out.place (by omega)
                              have g4 := h4 (j - k) (by omega)
                              have e4 : (X.drop k).getD (j - k) 0 = x := by rw [hx]; simp only [List.getD, List.getElem?_drop]; rw [show k + (j - k) = j by omega]
                              rw [e4] at g4
                              have hjn2 : (j : Int) - (k : Int) < ((n - k : Nat) : Int) := by omega
                              clear h4 e4 hx hov LP7 RP7
                              go_wp2
                              go_round
                              case rel => exact ⟨j + 1, by omega, by go_num⟩
                              case measure => simp [intOf]; omega
                          · have hjq : ¬ j < q := by have := HLO.out; omega
                            rw [if_neg hjq] at hov
                            rw [← hov] at g1
                            clear RQ7
                            rcases (show j < k ∨ k ≤ j from by omega) with hjk | hjk
                            · obtain ⟨b4, o4, rfl, -, h4⟩ := LP7.out.place (by omega)
                              have g4 := h4 j hjk
                              have e4 : (X.take k).getD j 0 = x := by rw [hx]; simp only [List.getD, List.getElem?_take, if_pos hjk]
                              rw [e4] at g4
                              clear h4 e4 hx hov LP7 RP7
                              go_wp2
                              go_round
                              case rel => exact ⟨j + 1, by omega, by go_num⟩
                              case measure => simp [intOf]; omega
                            · obtain ⟨b4, o4, rfl, -, h4⟩ := RP7.out.place (by omega)
                              have g4 := h4 (j - k) (by omega)
                              have e4 : (X.drop k).getD (j - k) 0 = x := by rw [hx]; simp only [List.getD, List.getElem?_drop]; rw [show k + (j - k) = j by omega]
                              rw [e4] at g4
                              have hjn2 : (j : Int) - (k : Int) < ((n - k : Nat) : Int) := by omega
                              clear h4 e4 hx hov LP7 RP7
                              go_wp2
                              go_round
                              case rel => exact ⟨j + 1, by omega, by go_num⟩
                              case measure => simp [intOf]; omega
                        · have hlenb : ((z : Int) != (zl : Int) + (zr : Int)) = false := by have := HLEN.out; simp; omega
                          have HZS : Hid (Z X n = Z (X.take k) k ++ (Z (X.drop k) (n - k)).map (fun x => x + (k : Int))) := by
                            have e := Z_split X k (n - k)
                            rw [show k + (n - k) = n by omega] at e
                            show Z X n = _
                            rw [e]
                            congr 1
                            exact Z_congr fun i hi => by simp only [List.getD, List.getElem?_take, if_pos hi]
                          have HZl : Hid ((Z (X.take k) k).length = zl) := HZL.out.symm
                          have HZr : Hid ((Z (X.drop k) (n - k)).length = zr) := HZR.out.symm
                          have HZw : Hid ((Z X n).length = z) := HZ.out.symm
                          have hzz : z = zl + zr := HLEN.out
                          have hz1' : zl ≤ z := by omega
                          have hz2' : zl + zr ≤ z := by omega
                          clear hzz HOV LP7 RP7 RQ7 P7
                          go_wp2_with fail
                          -- the left list
                          go_loopw [27] (fun i wr => ∃ j m : Nat, j ≤ zl ∧ i = .int .i64 j ∧ wr = V7.drewN m) (fun i _ => zl - (intOf i).toNat)
                          case atStart => exact ⟨0, 0, Nat.zero_le _, rfl, rfl⟩
                          case round =>
                            obtain ⟨j2, m2, hj2, rfl, rfl⟩ := hrel
                            by_cases hjl : j2 < zl
                            · obtain ⟨b1, o1, rfl, -, h1⟩ := WV7.out.place (by omega)
                              obtain ⟨b2, o2, rfl, -, h2⟩ := LV7.out.place (by omega)
                              have g1 := h1 j2 (by omega)
                              have g2 := h2 j2 hjl
                              have e1 : (Z X n).getD j2 0 = (Z (X.take k) k).getD j2 0 := by
                                rw [HZS.out]; simp only [List.getD]; rw [List.getElem?_append_left (by rw [HZl.out]; exact hjl)]
                              rw [e1] at g1
                              have i1 : (j2 : Int) < (z : Int) := by omega
                              have i2 : (j2 : Int) < (zl : Int) := by omega
                              clear h1 h2 e1 HF HLEN WV7 LV7 RV7 PA7
                              go_wp2
                              go_quiet (fail)
                              go_wp2
                              exact ⟨⟨j2 + 1, _, by omega, by go_num, rfl⟩, by simp [intOf]; omega⟩
                            · go_wp2_with fail
                              -- the right list
                              go_loopw [28] (fun i wr => ∃ j m : Nat, j ≤ zr ∧ i = .int .i64 j ∧ wr = V7.drewN m) (fun i _ => zr - (intOf i).toNat)
                              case atStart => exact ⟨0, m2, Nat.zero_le _, rfl, rfl⟩
                              case round =>
                                obtain ⟨j3, m3, hj3, rfl, rfl⟩ := hrel
                                by_cases hjr : j3 < zr
                                · obtain ⟨b1, o1, rfl, -, h1⟩ := WV7.out.place (by omega)
                                  obtain ⟨b2, o2, rfl, -, h2⟩ := RV7.out.place (by omega)
                                  have g1 := h1 (zl + j3) (by omega)
                                  have g2 := h2 j3 hjr
                                  have e1 : (Z X n).getD (zl + j3) 0 = (Z (X.drop k) (n - k)).getD j3 0 + (k : Int) := by
                                    rw [HZS.out]; simp only [List.getD]
                                    rw [List.getElem?_append_right (by rw [HZl.out]; omega), HZl.out, show zl + j3 - zl = j3 by omega, List.getElem?_map, List.getElem?_eq_getElem (by rw [HZr.out]; exact hjr)]
                                    rfl
                                  obtain ⟨y, hy1, hy2, hy3⟩ := Z_mem (X.drop k) (n - k) j3 (by rw [HZr.out]; exact hjr)
                                  rw [e1, hy1] at g1
                                  rw [hy1] at g2
                                  have i1 : (zl : Int) + (j3 : Int) < (z : Int) := by omega
                                  have i2 : (j3 : Int) < (zr : Int) := by omega
                                  clear h1 h2 e1 hy1 hy3 HF HLEN WV7 LV7 RV7 PA7
                                  go_wp2
                                  go_quiet (fail)
                                  go_wp2
                                  exact ⟨⟨j3 + 1, _, by omega, by go_num, rfl⟩, by simp [intOf]; omega⟩
                                · go_wp2_with fail
                                  -- increasing, in range, at zero counts
                                  go_loop [29, 30] (fun p i => ∃ j : Nat, ∃ p0 : Int, j ≤ z ∧ i = .int .i64 j ∧ p = .int .i64 p0 ∧ p0 = (if j = 0 then -1 else (Z X n).getD (j - 1) 0)) (fun _ i => z - (intOf i).toNat)
                                  case atStart => exact ⟨0, -1, Nat.zero_le _, rfl, rfl, rfl⟩
                                  case round =>
                                    obtain ⟨j4, p0, hj4, rfl, rfl, hp0⟩ := hrel
                                    by_cases hjz : j4 < z
                                    · obtain ⟨y, hy1, hy2, hy3⟩ := Z_mem X n j4 (by rw [HZw.out]; exact hjz)
                                      have hlt : p0 < (y : Int) := by
                                        by_cases h0 : j4 = 0
                                        · rw [hp0, if_pos h0]; omega
                                        · rw [hp0, if_neg h0, ← hy1]
                                          have := Z_incr X n (j4 - 1) (by rw [HZw.out]; omega)
                                          rw [show j4 - 1 + 1 = j4 by omega] at this
                                          exact this
                                      obtain ⟨b1, o1, rfl, -, h1⟩ := WV7.out.place (by omega)
                                      obtain ⟨b2, o2, rfl, -, h2⟩ := PA7.out.place (by omega)
                                      have g1 := h1 j4 hjz
                                      have g2 := h2 y hy2
                                      rw [hy1] at g1
                                      rw [hy3] at g2
                                      have HY : Hid ((y : Int) = (if j4 + 1 = 0 then -1 else (Z X n).getD (j4 + 1 - 1) 0)) := by
                                        show (y : Int) = _
                                        rw [if_neg (by omega), Nat.add_sub_cancel, hy1]
                                      clear h1 h2 hy1 hy3 hp0 HF HLEN WV7 LV7 RV7 PA7
                                      go_wp2
                                      go_round
                                      case rel => exact ⟨j4 + 1, _, by omega, by go_num, rfl, HY.out⟩
                                      case measure => simp [intOf]; omega
                                    · clear hp0
                                      have hfin : ((z : Int) != (cntZ X n : Int)) = false := by
                                        have := Z_length X n
                                        rw [HZw.out] at this
                                        simp; omega
                                      have paN := PA7.out.drewN m3
                                      go_wp2_with (go_at_call 8; refine (zeros_any pa n pac X _ paN k3).mono ?_; rintro e w' ⟨rfl, hw⟩; obtain rfl := hw.symm)
                                      go_ret
                                      exact ⟨rfl, HF.out.trans ⟨rfl, rfl, rfl, Nat.le_refl _, fun _ _ => rfl⟩⟩

end Go.Proofs.Qxb6632546a
