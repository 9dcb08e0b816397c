import Derived.Test.Qxb6623466aKeepWalks
namespace Go.Proofs.Qxb6623466a
open Go.RowKit

theorem zkeep_val (b : Nat) (f peers p c : Int) (r : Bool) (p' c' : Int) (w : World) (h0 : 0 ≤ peers) (h1 : peers ≤ 134217728) (hp : 0 ≤ p) (hc : 0 ≤ c) (h : Hid (Pd w b p c))
    (e1 : Hid (kept f peers p c = r)) (e2 : Hid (nextP f peers p = p')) (e3 : Hid (nextC f c = c')) :
    Calls Try.prog 6 #[.pointer (some ⟨b, 0, none⟩), .int .i64 f, .int .i64 peers] w fun e w' => e = .returned (.bool r) ∧ Hid (Pd w' b p' c') ∧ Below b w w' := by
  cases e1.out; cases e2.out; cases e3.out; exact zkeep_any b f peers p c w h0 h1 hp hc h

/-- What the loop's slots and memory hold behind k rounds. -/
def Inv (B : Nat) (w : World) (fp fc pe : Int) (len k c p : Nat) (P C : Int) (wr : World) : Prop :=
  k ≤ len ∧ c ≤ k ∧ p ≤ k ∧ P = fp + min (p : Int) (max 0 (9 * pe - fp)) ∧ C = fc + min (c : Int) (max 0 (8 - fc)) ∧ Pd wr B P C ∧ Below B w wr

set_option maxHeartbeats 2000000 in
theorem main_in (fp fc pe : Int) (a3 : Option Addr) (len cap : Nat) (z : Nat → Int) (w : World)
    (hfp : 0 ≤ fp) (hfp2 : fp ≤ 9223372036854775807) (hfc : 0 ≤ fc) (hfc2 : fc ≤ 9223372036854775807) (h0 : 0 ≤ pe) (h1 : pe ≤ 134217728) (hlen : len ≤ 131072)
    (hrow : ∀ j, j < len → ∃ b off, a3 = some ⟨b, off, none⟩ ∧ w.cell? ⟨b, off + j, none⟩ = some (.int .i64 (z j))) :
    Calls Try.prog 3 #[.int .i64 fp, .int .i64 fc, .int .i64 pe, .slice a3 len cap] w fun e w' => e = .returned (.bool true) ∧ Below w.heap.size w w' := by
  have hl2 : len ≤ 1048576 := by omega
  have d1 : decide ((131072 : Int) < (len : Int)) = false := decide_eq_false (by omega)
  have d2 : decide (pe < 0) = false := decide_eq_false (by omega)
  have d3 : decide (134217728 < pe) = false := decide_eq_false (by omega)
  have d4 : decide (fp < 0) = false := decide_eq_false (by omega)
  have d5 : decide (fc < 0) = false := decide_eq_false (by omega)
  have HR : Hid (∀ j, j < len → ∃ b off, a3 = some ⟨b, off, none⟩ ∧ w.cell? ⟨b, off + j, none⟩ = some (.int .i64 (z j))) := hrow
  clear hrow
  obtain ⟨B, hB⟩ : ∃ B, B = w.heap.size := ⟨_, rfl⟩
  have HB : Hid (B = w.heap.size) := hB
  clear hB
  by_cases hC : fc < 8
  all_goals by_cases hP : fp < 9 * pe
  all_goals
    go_enter Try.func3, Try.ntmps3
    go_wp2_with (first | (go_at_call 4; refine (bytes_yes _ _ _ _ _ _ _ hl2).mono ?_; rintro e w' ⟨rfl, rfl⟩) | (go_at_call 5; refine (new_any _ _ _).mono ?_; rintro e w1 ⟨rfl, hpd, hb⟩))
    have HP : Hid (Pd w1 w'.heap.size fp fc) := hpd
    clear hpd
    go_loopw [13, 14, 15] (fun sc sp i wr => ∃ (k c p : Nat) (P C : Int), i = .int .i64 k ∧ sc = .int .i64 c ∧ sp = .int .i64 p ∧ Inv w'.heap.size w' fp fc pe len k c p P C wr) (fun _ _ i _ => len - (intOf i).toNat)
    case atStart => exact ⟨0, 0, 0, fp, fc, rfl, rfl, rfl, by omega, by omega, by omega, by omega, by omega, HP.out, hb⟩
    case round =>
      obtain ⟨k, c, p, P, C, rfl, rfl, rfl, hk, hck, hpk, hPP, hCC, hpd, hbw⟩ := hrel
      have HPd : Hid (Pd wr w'.heap.size P C) := hpd
      have HPP : Hid (P = fp + min (p : Int) (max 0 (9 * pe - fp))) := hPP
      have HCC : Hid (C = fc + min (c : Int) (max 0 (8 - fc))) := hCC
      have hP0 : 0 ≤ P := by omega
      have hC0 : 0 ≤ C := by omega
      clear hpd hPP hCC
      by_cases hlt : k < len
      · obtain ⟨b, off, rfl, hc⟩ := HR.out k hlt
        have hcell := cell_later hbw hc
        by_cases e1 : z k = -1
        · have A1 : Hid (kept (z k) pe P C = true) := by show kept _ _ _ _ = _; simp [kept, e1]
          have A2 : Hid (nextP (z k) pe P = P) := by show nextP _ _ _ = _; simp [nextP, e1]
          have A3 : Hid (nextC (z k) C = C) := by show nextC _ _ = _; simp [nextC, e1]
          have b1 : (z k == -1) = true := by simpa using e1
          clear e1
          go_wp2_with (go_at_call 6; refine (zkeep_val w'.heap.size (z k) pe P C true P C _ h0 h1 hP0 hC0 HPd A1 A2 A3).mono ?_; rintro e w2 ⟨rfl, hp2, hb2⟩)
          all_goals
            go_roundw
            case rel => exact ⟨k + 1, c, p, P, C, by go_num, rfl, rfl, by omega, by omega, by omega, HPP.out, HCC.out, hp2.out, hbw.trans hb2⟩
            case measure => simp [intOf]; omega
        · have b1 : (z k == -1) = false := by simpa using e1
          by_cases e2 : z k = -2
          · have b2 : (z k == -2) = true := by simpa using e2
            have A2 : Hid (nextP (z k) pe P = P) := by show nextP _ _ _ = _; simp [nextP, e2]
            by_cases hr : (c : Int) < max 0 (8 - fc)
            · have hr1 : (c : Int) < 8 - fc := by omega
              have hr2 : decide ((c : Int) < 8 - fc) = true := decide_eq_true hr1
              have A1 : Hid (kept (z k) pe P C = true) := by show kept _ _ _ _ = _; have := HCC.out; simp [kept, e2]; omega
              have A3 : Hid (nextC (z k) C = C + 1) := by show nextC _ _ = _; have := HCC.out; simp [nextC, e2]; omega
              clear e1 e2 hr
              go_wp2_with (go_at_call 6; refine (zkeep_val w'.heap.size (z k) pe P C true P (C + 1) _ h0 h1 hP0 hC0 HPd A1 A2 A3).mono ?_; rintro e w2 ⟨rfl, hp2, hb2⟩)
              all_goals
                go_roundw
                case rel => exact ⟨k + 1, c + 1, p, P, C + 1, by go_num, by go_num, rfl, by omega, by omega, by omega, HPP.out, by have := HCC.out; omega, hp2.out, hbw.trans hb2⟩
                case measure => simp [intOf]; omega
            · have hr1 : decide ((c : Int) < 8 - fc) = false := decide_eq_false (by omega)
              have hr2 : decide ((c : Int) < 0) = false := decide_eq_false (by omega)
              have A1 : Hid (kept (z k) pe P C = false) := by show kept _ _ _ _ = _; have := HCC.out; simp [kept, e2]; omega
              have A3 : Hid (nextC (z k) C = C) := by show nextC _ _ = _; have := HCC.out; simp [nextC, e2]; omega
              have hr3 : Hid (¬ (c : Int) < max 0 (8 - fc)) := hr
              clear e1 e2 hr
              go_wp2_with (go_at_call 6; refine (zkeep_val w'.heap.size (z k) pe P C false P C _ h0 h1 hP0 hC0 HPd A1 A2 A3).mono ?_; rintro e w2 ⟨rfl, hp2, hb2⟩)
              all_goals
                go_roundw
                case rel => exact ⟨k + 1, c + 1, p, P, C, by go_num, by go_num, rfl, by omega, by omega, by omega, HPP.out, by have := HCC.out; have := hr3.out; omega, hp2.out, hbw.trans hb2⟩
                case measure => simp [intOf]; omega
          · have b2 : (z k == -2) = false := by simpa using e2
            have A3 : Hid (nextC (z k) C = C) := by show nextC _ _ = _; simp [nextC, e2]
            by_cases hr : (p : Int) < max 0 (9 * pe - fp)
            · have hr1 : (p : Int) < 9 * pe - fp := by omega
              have hr2 : decide ((p : Int) < 9 * pe - fp) = true := decide_eq_true hr1
              have A1 : Hid (kept (z k) pe P C = true) := by show kept _ _ _ _ = _; have := HPP.out; simp [kept, e1, e2]; omega
              have A2 : Hid (nextP (z k) pe P = P + 1) := by show nextP _ _ _ = _; have := HPP.out; simp [nextP, e1, e2]; omega
              clear e1 e2 hr
              go_wp2_with (go_at_call 6; refine (zkeep_val w'.heap.size (z k) pe P C true (P + 1) C _ h0 h1 hP0 hC0 HPd A1 A2 A3).mono ?_; rintro e w2 ⟨rfl, hp2, hb2⟩)
              all_goals
                go_roundw
                case rel => exact ⟨k + 1, c, p + 1, P + 1, C, by go_num, rfl, by go_num, by omega, by omega, by omega, by have := HPP.out; omega, HCC.out, hp2.out, hbw.trans hb2⟩
                case measure => simp [intOf]; omega
            · have hr1 : decide ((p : Int) < 9 * pe - fp) = false := decide_eq_false (by omega)
              have hr2 : decide ((p : Int) < 0) = false := decide_eq_false (by omega)
              have A1 : Hid (kept (z k) pe P C = false) := by show kept _ _ _ _ = _; have := HPP.out; simp [kept, e1, e2]; omega
              have A2 : Hid (nextP (z k) pe P = P) := by show nextP _ _ _ = _; have := HPP.out; simp [nextP, e1, e2]; omega
              have hr3 : Hid (¬ (p : Int) < max 0 (9 * pe - fp)) := hr
              clear e1 e2 hr
              go_wp2_with (go_at_call 6; refine (zkeep_val w'.heap.size (z k) pe P C false P C _ h0 h1 hP0 hC0 HPd A1 A2 A3).mono ?_; rintro e w2 ⟨rfl, hp2, hb2⟩)
              all_goals
                go_roundw
                case rel => exact ⟨k + 1, c, p + 1, P, C, by go_num, rfl, by go_num, by omega, by omega, by omega, by have := HPP.out; have := hr3.out; omega, HCC.out, hp2.out, hbw.trans hb2⟩
                case measure => simp [intOf]; omega
      · have hbig1 : fp + min (p : Int) (9 * pe - fp) ≤ 9223372036854775807 := by omega
        have hbig2 : fc + min (c : Int) (8 - fc) ≤ 9223372036854775807 := by omega
        go_wp2_with (first | (go_at_call 7; refine (counts_any _ _ _ _ HPd.out).mono ?_; rintro e w2 ⟨rfl, n2, rfl⟩) | (go_at_call 8; refine (min_any _ _ _).mono ?_; rintro e w3 ⟨rfl, rfl⟩))
        all_goals first | (exfalso; have := HPP.out; have := HCC.out; omega) | (go_ret; refine ⟨ret_bool (by have := HPP.out; have := HCC.out; simp; omega), below_drewN hbw _⟩)

set_option maxHeartbeats 1000000 in
theorem main_out (fp fc pe : Int) (a3 : Option Addr) (len cap : Nat) (w : World) (hlen : len ≤ 9223372036854775807)
    (h : 131072 < len ∨ pe < 0 ∨ 134217728 < pe ∨ fp < 0 ∨ fc < 0) :
    Calls Try.prog 3 #[.int .i64 fp, .int .i64 fc, .int .i64 pe, .slice a3 len cap] w fun e w' => e = .returned (.bool true) ∧ Below w.heap.size w w' := by
  by_cases c1 : 1048576 < len
  · go_enter Try.func3, Try.ntmps3
    go_wp2_with (go_at_call 4; refine (bytes_no _ _ _ _ _ _ _ c1).mono ?_; rintro e w' ⟨rfl, rfl⟩)
    go_ret
    exact ⟨rfl, Below.refl _ _⟩
  have c1' : len ≤ 1048576 := by omega
  by_cases c2 : 131072 < len
  · clear h
    go_enter Try.func3, Try.ntmps3
    go_wp2_with (go_at_call 4; refine (bytes_yes _ _ _ _ _ _ _ c1').mono ?_; rintro e w' ⟨rfl, rfl⟩)
    go_ret
    exact ⟨rfl, Below.refl _ _⟩
  by_cases c3 : pe < 0
  · clear h
    go_enter Try.func3, Try.ntmps3
    go_wp2_with (go_at_call 4; refine (bytes_yes _ _ _ _ _ _ _ c1').mono ?_; rintro e w' ⟨rfl, rfl⟩)
    go_ret
    exact ⟨rfl, Below.refl _ _⟩
  by_cases c4 : 134217728 < pe
  · clear h
    go_enter Try.func3, Try.ntmps3
    go_wp2_with (go_at_call 4; refine (bytes_yes _ _ _ _ _ _ _ c1').mono ?_; rintro e w' ⟨rfl, rfl⟩)
    go_ret
    exact ⟨rfl, Below.refl _ _⟩
  by_cases c5 : fp < 0
  · clear h
    go_enter Try.func3, Try.ntmps3
    go_wp2_with (go_at_call 4; refine (bytes_yes _ _ _ _ _ _ _ c1').mono ?_; rintro e w' ⟨rfl, rfl⟩)
    go_ret
    exact ⟨rfl, Below.refl _ _⟩
  · have c6 : fc < 0 := by omega
    clear h
    go_enter Try.func3, Try.ntmps3
    go_wp2_with (go_at_call 4; refine (bytes_yes _ _ _ _ _ _ _ c1').mono ?_; rintro e w' ⟨rfl, rfl⟩)
    go_ret
    exact ⟨rfl, Below.refl _ _⟩
end Go.Proofs.Qxb6623466a
