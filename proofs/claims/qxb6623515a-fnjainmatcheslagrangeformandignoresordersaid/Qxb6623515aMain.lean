import Derived.Test.Qxb6623515aTurn
namespace Go.Proofs.Qxb6623515a
open Go.RowKit

theorem row_drewN {w : World} {a : Option Addr} {len : Nat} {z : Nat → Int} (h : Row w a len z) (n : Nat) : Row (w.drewN n) a len z := h

set_option maxRecDepth 100000 in
set_option maxHeartbeats 2000000 in
theorem lagr_in (s : Option Addr) (len cap : Nat) (kk : Int) (z : Nat → Int) (w : World) (hlen : len ≤ 4096)
    (hs : (s = none ∧ len = 0 ∧ cap = 0) ∨ ∃ x, s = some x ∧ ∀ j, j < len → w.cell? (x.add j) = some (.int .i64 (z j))) :
    Calls Try.prog 3 #[.slice s len cap, .int .i64 kk] w fun e w' => e = .returned (.bool true) ∧ Below w.heap.size w w' := by
  have hl2 : len ≤ 1048576 := by omega
  have d1 : decide ((4096 : Int) < (len : Int)) = false := decide_eq_false (by omega)
  have hl3 : (len : Int) ≤ 4096 := by omega
  have hnil := fun w a c => run_neq_slice_nil_any (P := Try.prog) w 22 2 a len c 0 0 Try.underlying22
  have hmk := run_make_row' (P := Try.prog) 22 2 (.int .i64 0) 8 Try.underlying22 Try.info2 rfl .i64 .i64 len (by omega) (by omega)
  obtain ⟨i0, hi, hz0, hz1, hz2⟩ := info_parts Try.info2
  have HS : Hid ((s = none ∧ len = 0 ∧ cap = 0) ∨ ∃ x, s = some x ∧ ∀ j, j < len → w.cell? (x.add j) = some (.int .i64 (z j))) := hs
  clear hs
  go_enter Try.func3, Try.ntmps3
  go_upto_if 32 with (go_at_call 5; refine (bytes_yes _ _ _ _ _ hl2).mono ?_; rintro e w' ⟨rfl, rfl⟩)
  go_cut [0] (fun s0 wx => ∃ a' c', s0 = .slice a' len c' ∧ Hid (Row wx a' len z) ∧ Below w'.heap.size w' wx)
  case first =>
    rcases HS.out with ⟨rfl, rfl, rfl⟩ | ⟨x, rfl, hc⟩
    · go_wp2
      go_meet
      case rel => exact ⟨none, 0, rfl, fun j hj => absurd hj (by omega), Below.refl _ _⟩
    · obtain ⟨w2, hcopy, hrow, hbel, hsz⟩ := copy_made w' x len cap z hc
      have HRo : Hid (Row w2 (some ⟨w'.heap.size, 0, none⟩) len z) := hrow
      clear hrow hc
      go_wp2
      go_meet
      case rel => exact ⟨_, len, rfl, HRo, hbel⟩
  case rest =>
    obtain ⟨a, c, rfl, hRow, hB⟩ := hcut
    go_wp2
    go_loop [6] (fun i => ∃ k : Nat, k ≤ len ∧ i = .int .i64 k ∧ Hid (∀ j, j < k → -1048576 < z j ∧ z j < 1048576)) (fun i => len - (intOf i).toNat)
    case atStart => exact ⟨0, Nat.zero_le _, rfl, fun j hj => absurd hj (by omega)⟩
    case round =>
      obtain ⟨k, hk, rfl, hz⟩ := hrel
      by_cases hlt : k < len
      · obtain ⟨b, off, rfl, hc⟩ := hRow.out k hlt
        by_cases e1 : z k ≤ -1048576
        · go_wp2
          go_ret
          exact ⟨rfl, hB⟩
        · by_cases e2 : 1048576 ≤ z k
          · go_wp2
            go_ret
            exact ⟨rfl, hB⟩
          · go_wp2
            go_round
            case rel => exact ⟨k + 1, by omega, by go_num, fun j hj => by
              by_cases e : j = k
              · subst e; omega
              · exact hz.out j (by omega)⟩
            case measure => simp [intOf]; omega
      · have hkl : len = k := by omega
        subst hkl
        by_cases k1 : kk < 0
        · go_wp2
          go_ret
          exact ⟨rfl, hB⟩
        by_cases k2 : (len : Int) < kk
        · go_wp2
          go_ret
          exact ⟨rfl, hB⟩
        obtain ⟨cu, rfl⟩ := Int.eq_ofNat_of_zero_le (show 0 ≤ kk by omega)
        have kd1 : decide ((cu : Int) < 0) = false := decide_eq_false (by omega)
        have kd2 : decide ((len : Int) < (cu : Int)) = false := decide_eq_false (by omega)
        have hcu : cu ≤ len := by omega
        clear k1 k2
        go_wp2
        go_loop [7, 8, 9] (fun sm az i => ∃ k : Nat, k ≤ len ∧ i = .int .i64 k ∧ sm = .int .i64 (S z k) ∧ az = .bool (decide (Q z k = 0))) (fun _ _ i => len - (intOf i).toNat)
        case atStart => exact ⟨0, Nat.zero_le _, rfl, rfl, rfl⟩
        case round =>
          obtain ⟨k, hk, rfl, rfl, rfl⟩ := hrel
          have sb := S_bd2 z len hz.out k hk
          have qb := Q_bd z len hz.out k hk
          by_cases hlt : k < len
          · obtain ⟨b, off, rfl, hc⟩ := hRow.out k hlt
            have zb := hz.out k hlt
            by_cases e1 : z k = 0
            · have e2 : (z k == 0) = true := by simpa using e1
              have HQ : Hid (decide (Q z (k + 1) = 0) = decide (Q z k = 0)) := by show decide _ = decide _; rw [Q, e1]; simp
              have HE : Hid (z k = 0) := e1
              clear e1
              go_wp2
              go_round
              case rel => exact ⟨k + 1, by omega, by go_num, rfl, by rw [HQ.out]⟩
              case measure => simp [intOf]; omega
            · have e2 : (z k == 0) = false := by simpa using e1
              have HQ : Hid (decide (Q z (k + 1) = 0) = false) := by
                show decide _ = false
                apply decide_eq_false
                rw [Q]
                have := sq_nn (z k)
                have : z k * z k ≠ 0 := by simp [e1]
                omega
              clear e1
              go_wp2
              go_round
              case rel => exact ⟨k + 1, by omega, by go_num, rfl, by rw [HQ.out]⟩
              case measure => simp [intOf]; omega
          · have hkl : len = k := by omega
            subst hkl
            go_upto_if 83 with (fail)
            have sq := SS_bd z len hlen hz.out
            go_cut [8, 10] (fun _ wt wx => ∃ r, wt = .float .f64 r ∧ Hid (JainIs z len r) ∧ (FloatKind.f64.format.order r r == some .eq) = true ∧ Hid (Row wx a len z) ∧ Below w'.heap.size w' wx)
            case first =>
              by_cases hq : Q z len = 0
              · have hself : (FloatKind.f64.format.order 4607182418800017408 4607182418800017408 == some .eq) = true := by decide
                have HJ : Hid (JainIs z len 4607182418800017408) := Or.inl ⟨hq, rfl⟩
                go_wp2
                go_meet
                case rel => exact ⟨_, rfl, HJ, hself, hRow, hB⟩
              · have hq' : decide (Q z len = 0) = false := decide_eq_false hq
                have HQ : Hid (Q z len ≠ 0) := hq
                clear hq
                have hng : -S z len * -S z len = S z len * S z len := Int.neg_mul_neg _ _
                by_cases hneg : S z len < 0
                all_goals
                  go_wp2
                  go_loopw [14, 15] (fun d i wr => ∃ k : Nat, k ≤ len ∧ i = .int .i64 k ∧ d = .int .u64 (Dout z len k) ∧ Hid (Row wr a len z) ∧ Below w'.heap.size w' wr) (fun _ i _ => len - (intOf i).toNat)
                  case atStart => exact ⟨0, Nat.zero_le _, rfl, rfl, hRow, hB⟩
                  case round =>
                    obtain ⟨k, hk, rfl, rfl, hRw, hBw⟩ := hrel
                    by_cases hlt : k < len
                    · go_wp2
                      go_loopw [14, 16] (fun d j wr => ∃ jn : Nat, k + 1 ≤ jn ∧ jn ≤ len ∧ j = .int .i64 jn ∧ d = .int .u64 (Dout z len k + Din z k (jn - (k + 1))) ∧ Hid (Row wr a len z) ∧ Below w'.heap.size w' wr) (fun _ j _ => len - (intOf j).toNat)
                      case atStart => exact ⟨k + 1, by omega, by omega, by go_num, by rw [Nat.sub_self, Din, Int.add_zero], hRw, hBw⟩
                      case round =>
                        obtain ⟨jn, hj1, hj2, rfl, rfl, hRx, hBx⟩ := hrel
                        by_cases hjt : jn < len
                        · obtain ⟨b, off, rfl, hc1⟩ := hRx.out k hlt
                          obtain ⟨b', off', hbo, hc2⟩ := hRx.out jn hjt
                          cases hbo
                          have zb1 := hz.out k hlt
                          have zb2 := hz.out jn hjt
                          by_cases hdn : z k - z jn < 0
                          · go_wp2_with fail
                            go_quiet (fail)
                            go_wp2
                            go_roundw
                            case rel => refine ⟨jn + 1, by omega, by omega, by go_num, d_step z len k jn hlen hz.out hj1 hjt _ (Int.neg_mul_neg _ _), row_drewN hRx.out _, below_drewN hBx _⟩
                            case measure => simp [intOf]; omega
                          · go_wp2_with fail
                            go_quiet (fail)
                            go_wp2
                            go_roundw
                            case rel => refine ⟨jn + 1, by omega, by omega, by go_num, d_step z len k jn hlen hz.out hj1 hjt _ rfl, row_drewN hRx.out _, below_drewN hBx _⟩
                            case measure => simp [intOf]; omega
                        · have hje : len = jn := by omega
                          subst hje
                          go_wp2
                          go_roundw
                          case rel => exact ⟨k + 1, by omega, by go_num, rfl, hRx, hBx⟩
                          case measure => simp [intOf]; omega
                    · have hke : len = k := by omega
                      subst hke
                      obtain ⟨r, hr, hJ, hself⟩ := want_is z len hlen hz.out HQ.out
                      have HJ : Hid (JainIs z len r) := hJ
                      clear hJ
                      have c1 := fun w => conv_F (S z len * S z len) 25 .u64 (by kernel_rfl) w
                      have c2 := fun w => conv_F (S z len * S z len + Dout z len len) 25 .u64 (by kernel_rfl) w
                      have f3 := fun w => run_float_arith (P := Try.prog) w .quo 24 .f64 _ _ _ hr
                      clear hr
                      go_wp2
                      go_meet
                      case rel => exact ⟨r, rfl, HJ, hself, hRw, hBw⟩
            case rest =>
              obtain ⟨r, rfl, hJ, hself, hRow1, hB1⟩ := hcut
              obtain ⟨w1, hmk0, hown0, hgr0⟩ := run_make_own (P := Try.prog) wc wc.heap.size 22 2 i0 (.int .i64 0) 1 Try.underlying22 hi hz0 hz1 .i64 .i64 len (by rw [hz2]; omega) (by unfold maxLen; omega) (Nat.le_refl _)
              have hBc : Below wc.heap.size wc w1 := (Below.refl _ _).grown hgr0 (Nat.le_refl _) (fun k e => by cases e)
              have HO : Hid (w1.ownsRow wc.heap.size 2 1 (.slice (some ⟨wc.heap.size, 0, none⟩) 0 len) 0 []) := hown0
              clear hown0 hgr0
              go_wp2
              go_loopw [19, 20] (fun v i wr => ∃ k : Nat, cu ≤ k ∧ k ≤ len ∧ i = .int .i64 k ∧ Hid (wr.ownsRow wc.heap.size 2 1 v (k - cu) (rowOf z len cu (k - cu))) ∧ Below wc.heap.size wc wr) (fun _ i _ => len - (intOf i).toNat)
              case atStart => exact ⟨cu, Nat.le_refl _, hcu, rfl, by rw [Nat.sub_self, rowOf_zero]; exact HO, hBc⟩
              case round =>
                obtain ⟨k, hk1, hk2, rfl, hown, hBr⟩ := hrel
                by_cases hlt : k < len
                · obtain ⟨b, off, rfl, hc⟩ := row_below hRow1.out hBr k hlt
                  go_wp2_with (at_builtin; refine wpList_append_own _ rfl _ _ 22 rfl wc.heap.size 2 i0 (.int .i64 0) 1 8 Try.underlying22 hi hz0 hz1 hz2 rfl (by decide) _ _ _ rfl (hown.out.alloc _) ⟨wr.heap.size, 0, none⟩ 1 1 [.int .i64 (z k)] rfl rfl ?c1 ?c2 ?c3 ?c4 ?c5 ?_)
                  case c1 => exact cell_one_new _ _ _
                  case c2 => intro u hu; simp at hu; subst hu; rfl
                  case c3 => unfold maxLen; omega
                  case c4 => omega
                  case c5 => have := hBr.size; simp; omega
                  intro v' w2 hown' hgrow _
                  have R : Hid (w2.ownsRow wc.heap.size 2 1 v' (k + 1 - cu) (rowOf z len cu (k + 1 - cu))) := by
                    show World.ownsRow _ _ _ _ _ _ _
                    rw [← rowOf_snoc1 z len cu k hk1 hlt, show k + 1 - cu = k - cu + 1 from by omega]; exact hown'
                  have hB2 := app_step hBr hown.out hgrow
                  clear hown' hgrow hc
                  go_wp2
                  go_roundw
                  case rel => exact ⟨k + 1, by omega, by omega, by go_num, R, hB2⟩
                  case measure => simp [intOf]; omega
                · have hke : len = k := by omega
                  subst hke
                  go_wp2
                  go_loopw [19, 21] (fun v i wr => ∃ k : Nat, k ≤ cu ∧ i = .int .i64 k ∧ Hid (wr.ownsRow wc.heap.size 2 1 v (len - cu + k) (rowOf z len cu (len - cu + k))) ∧ Below wc.heap.size wc wr) (fun _ i _ => cu - (intOf i).toNat)
                  case atStart => exact ⟨0, Nat.zero_le _, rfl, hown, hBr⟩
                  case round =>
                    obtain ⟨k, hk, rfl, hown3, hBr3⟩ := hrel
                    by_cases hlt3 : k < cu
                    · have hkl : k < len := by omega
                      obtain ⟨b, off, rfl, hc⟩ := row_below hRow1.out hBr3 k hkl
                      go_wp2_with (at_builtin; refine wpList_append_own _ rfl _ _ 22 rfl wc.heap.size 2 i0 (.int .i64 0) 1 8 Try.underlying22 hi hz0 hz1 hz2 rfl (by decide) _ _ _ rfl (hown3.out.alloc _) ⟨wr.heap.size, 0, none⟩ 1 1 [.int .i64 (z k)] rfl rfl ?c1 ?c2 ?c3 ?c4 ?c5 ?_)
                      case c1 => exact cell_one_new _ _ _
                      case c2 => intro u hu; simp at hu; subst hu; rfl
                      case c3 => unfold maxLen; omega
                      case c4 => omega
                      case c5 => have := hBr3.size; simp; omega
                      intro v' w2 hown' hgrow _
                      have R : Hid (w2.ownsRow wc.heap.size 2 1 v' (len - cu + (k + 1)) (rowOf z len cu (len - cu + (k + 1)))) := by
                        show World.ownsRow _ _ _ _ _ _ _
                        rw [← rowOf_snoc2 z len cu k]; exact hown'
                      have hB2 := app_step hBr3 hown3.out hgrow
                      clear hown' hgrow hc
                      go_wp2
                      go_roundw
                      case rel => exact ⟨k + 1, by omega, by go_num, R, hB2⟩
                      case measure => simp [intOf]; omega
                    · have hke : cu = k := by omega
                      subst hke
                      have hsum : len - cu + cu = len := by omega
                      have hown4 := hown3.out
                      rw [hsum] at hown4
                      obtain ⟨ar, cr, hvr, hRr⟩ := row_owned hown4
                      have HRr : Hid (Row wr ar len (turn z len cu)) := hRr
                      have HRs : Hid (Row wr a len z) := row_below hRow1.out hBr3
                      have HJt : Hid (JainIs (turn z len cu) len r) := jain_turn z len cu r hcu hJ.out
                      have HZt : Hid (∀ j, j < len → -1048576 < turn z len cu j ∧ turn z len cu j < 1048576) := turn_bd z len cu hz.out
                      have hfin : Below w'.heap.size w' wr := hB1.trans (hBr3.mono hB1.size)
                      clear hown3 hown4 hRr hsum
                      subst hvr
                      go_wp2_with fail
                      refine (jain_any a len c z r _ hlen hz.out HRs.out hJ.out).mono ?_
                      rintro e w5 ⟨rfl, hw⟩
                      subst hw
                      go_wp2_with fail
                      refine (jain_any ar len cr (turn z len cu) r _ hlen HZt.out HRr.out HJt.out).mono ?_
                      rintro e w6 ⟨rfl, hw⟩
                      subst hw
                      go_wp2
                      go_ret
                      exact ⟨rfl, hfin⟩

set_option maxRecDepth 100000 in
set_option maxHeartbeats 400000 in
theorem lagr_out (s : Option Addr) (len cap : Nat) (kk : Int) (w : World) (hb : len ≤ 9223372036854775807) (hlen : 4096 < len) :
    Calls Try.prog 3 #[.slice s len cap, .int .i64 kk] w fun e w' => e = .returned (.bool true) ∧ Below w.heap.size w w' := by
  by_cases c1 : 1048576 < len
  · go_enter Try.func3, Try.ntmps3
    go_wp2_with (go_at_call 5; refine (bytes_no _ _ _ _ _ c1).mono ?_; rintro e w' ⟨rfl, rfl⟩)
    go_ret
    exact ⟨rfl, Below.refl _ _⟩
  · have c2 : len ≤ 1048576 := by omega
    go_enter Try.func3, Try.ntmps3
    go_wp2_with (go_at_call 5; refine (bytes_yes _ _ _ _ _ c2).mono ?_; rintro e w' ⟨rfl, rfl⟩)
    go_ret
    exact ⟨rfl, Below.refl _ _⟩
end Go.Proofs.Qxb6623515a
