import Derived.Test.Qxb6617226aClm
namespace Go.Proofs.Qxb6617226a
open Go.RowKit

set_option maxRecDepth 100000 in
set_option maxHeartbeats 2000000 in
theorem big9 (v : Value) (cs : List Cm) (w : World) (hP : K w v cs) :
    Calls Try.prog 9 #[v] w fun e w' => (e = .returned (.bool true) ∨ (e = .returned (.bool false) ∧ SmallC cs)) ∧ w' = w := by
  obtain ⟨a, cap, rfl, hl, hk⟩ := hP
  obtain ⟨n, hn⟩ : ∃ n, cs.length = n := ⟨_, rfl⟩
  rw [hn] at hl hk ⊢
  have HN : Hid (cs.length = n) := hn
  clear hn
  have HK : Hid (∀ i, i < n → ∃ b off ra rc, a = some ⟨b, off, none⟩ ∧ Five w b (off + i * 5) (cat cs i) ra rc) := hk
  clear hk
  by_cases c1 : 4096 < n
  · go_enter Try.func9, Try.ntmps9
    go_wp2
    go_ret
    exact ⟨Or.inl rfl, rfl⟩
  have d1 : decide ((4096 : Int) < (n : Int)) = false := decide_eq_false (by omega)
  go_enter Try.func9, Try.ntmps9
  go_wp2
  go_loop [3, 4] (fun t i => ∃ (q : Int) (k : Nat), 0 ≤ q ∧ q ≤ 1048576 ∧ t = .int .i64 q ∧ k ≤ n ∧ i = .int .i64 k ∧ Hid (∀ j, j < k → (cat cs j).rivals.length ≤ 1048576)) (fun _ i => n - (intOf i).toNat)
  case atStart => exact ⟨_, 0, by omega, by omega, rfl, Nat.zero_le _, rfl, fun j h => absurd h (Nat.not_lt_zero _)⟩
  case round =>
    obtain ⟨q, i, hq0, hq1, rfl, hi, rfl, hm⟩ := hrel
    by_cases hlt : i < n
    · obtain ⟨b, off, ra, rc, rfl, h5⟩ := HK.out i hlt
      obtain ⟨c, hci⟩ : ∃ c, cat cs i = c := ⟨_, rfl⟩
      have HC : Hid (cat cs i = c) := hci
      rw [hci] at h5
      clear hci
      have f0 := h5.c0
      have f1 := h5.c1
      have f4 := h5.c4
      have z0 := h5.s0
      have z1 := h5.s1
      have z2 := h5.len
      obtain ⟨nmz, hnmz⟩ : ∃ z, c.name = z := ⟨_, rfl⟩
      obtain ⟨owz, howz⟩ : ∃ z, c.owner = z := ⟨_, rfl⟩
      obtain ⟨n1, hn1⟩ : ∃ z, c.rivals.length = z := ⟨_, rfl⟩
      rw [hnmz] at f0 z0
      rw [howz] at f1 z1
      rw [hn1] at f4 z2
      have HN1 : Hid (c.rivals.length = n1) := hn1
      have H5 : Hid (Five w b (off + i * 5) c ra rc) := h5
      clear h5 hnmz howz hn1
      by_cases c2 : 1048576 < q + 64
      · go_wp2_with fail
        refine (add_no _ _ _ (by omega) (by omega) c2 (by omega) (by omega)).mono ?_
        rintro e w3 ⟨rfl, hw3⟩
        cases hw3
        go_wp2_with fail
        refine (add_neg _ _).mono ?_
        rintro e w3 ⟨rfl, hw3⟩
        cases hw3
        go_wp2_with fail
        refine (add_neg _ _).mono ?_
        rintro e w3 ⟨rfl, hw3⟩
        cases hw3
        go_wp2
        go_ret
        exact ⟨Or.inl rfl, rfl⟩
      by_cases c3 : 1048576 < q + 64 + nmz.size
      · go_wp2_with fail
        refine (add_ok _ _ _ (by omega) (by omega) (by omega)).mono ?_
        rintro e w3 ⟨rfl, hw3⟩
        cases hw3
        go_wp2_with fail
        refine (add_no _ _ _ (by omega) (by omega) c3 (by omega) (by omega)).mono ?_
        rintro e w3 ⟨rfl, hw3⟩
        cases hw3
        go_wp2_with fail
        refine (add_neg _ _).mono ?_
        rintro e w3 ⟨rfl, hw3⟩
        cases hw3
        go_wp2
        go_ret
        exact ⟨Or.inl rfl, rfl⟩
      by_cases c4 : 1048576 < q + 64 + nmz.size + owz.size
      · go_wp2_with fail
        refine (add_ok _ _ _ (by omega) (by omega) (by omega)).mono ?_
        rintro e w3 ⟨rfl, hw3⟩
        cases hw3
        go_wp2_with fail
        refine (add_ok _ _ _ (by omega) (by omega) (by omega)).mono ?_
        rintro e w3 ⟨rfl, hw3⟩
        cases hw3
        go_wp2_with fail
        refine (add_no _ _ _ (by omega) (by omega) c4 (by omega) (by omega)).mono ?_
        rintro e w3 ⟨rfl, hw3⟩
        cases hw3
        go_wp2
        go_ret
        exact ⟨Or.inl rfl, rfl⟩
      have d4 : decide (q + 64 + nmz.size + owz.size < 0) = false := decide_eq_false (by omega)
      go_wp2_with fail
      refine (add_ok _ _ _ (by omega) (by omega) (by omega)).mono ?_
      rintro e w3 ⟨rfl, hw3⟩
      cases hw3
      go_wp2_with fail
      refine (add_ok _ _ _ (by omega) (by omega) (by omega)).mono ?_
      rintro e w3 ⟨rfl, hw3⟩
      cases hw3
      go_wp2_with fail
      refine (add_ok _ _ _ (by omega) (by omega) (by omega)).mono ?_
      rintro e w3 ⟨rfl, hw3⟩
      cases hw3
      go_wp2
      go_loop [3, 5] (fun t j => ∃ (q : Int) (k : Nat), 16 * (k : Int) ≤ q ∧ q ≤ 1048576 ∧ t = .int .i64 q ∧ k ≤ n1 ∧ j = .int .i64 k) (fun _ j => n1 - (intOf j).toNat)
      case atStart => exact ⟨_, 0, by omega, by omega, rfl, Nat.zero_le _, rfl⟩
      case round =>
        obtain ⟨q', j, hq0', hq1', rfl, hj, rfl⟩ := hrel
        by_cases hlt1 : j < n1
        · obtain ⟨b1, off1, rfl, hc1⟩ := H5.out.row j (by rw [HN1.out]; exact hlt1)
          have hsz := H5.out.each j (by rw [HN1.out]; exact hlt1)
          generalize sat c.rivals j = s at *
          by_cases c8 : 1048576 < q' + 16
          · go_wp2_with fail
            refine (add_no _ _ _ (by omega) (by omega) c8 (by omega) (by omega)).mono ?_
            rintro e w3 ⟨rfl, hw3⟩
            cases hw3
            go_wp2_with fail
            refine (add_neg _ _).mono ?_
            rintro e w3 ⟨rfl, hw3⟩
            cases hw3
            go_wp2
            go_ret
            exact ⟨Or.inl rfl, rfl⟩
          by_cases c9 : 1048576 < q' + 16 + s.size
          · go_wp2_with fail
            refine (add_ok _ _ _ (by omega) (by omega) (by omega)).mono ?_
            rintro e w3 ⟨rfl, hw3⟩
            cases hw3
            go_wp2_with fail
            refine (add_no _ _ _ (by omega) (by omega) c9 (by omega) (by omega)).mono ?_
            rintro e w3 ⟨rfl, hw3⟩
            cases hw3
            go_wp2
            go_ret
            exact ⟨Or.inl rfl, rfl⟩
          go_wp2_with fail
          refine (add_ok _ _ _ (by omega) (by omega) (by omega)).mono ?_
          rintro e w3 ⟨rfl, hw3⟩
          cases hw3
          go_wp2_with fail
          refine (add_ok _ _ _ (by omega) (by omega) (by omega)).mono ?_
          rintro e w3 ⟨rfl, hw3⟩
          cases hw3
          go_wp2
          go_round
          case rel => exact ⟨q' + 16 + s.size, j + 1, by omega, by omega, rfl, by omega, by go_num⟩
          case measure => simp [intOf]; omega
        · go_wp2
          go_round
          case rel => exact ⟨q', i + 1, by omega, by omega, rfl, by omega, by go_num, fun j' h' => by
            by_cases e : j' = i
            · subst e; rw [HC.out, HN1.out]; omega
            · exact hm.out j' (by omega)⟩
          case measure => simp [intOf]; omega
    · have hie : n = i := by omega
      subst hie
      go_wp2
      go_ret
      exact ⟨Or.inr ⟨rfl, by rw [HN.out]; omega, by rw [HN.out]; exact hm.out⟩, rfl⟩
end Go.Proofs.Qxb6617226a
