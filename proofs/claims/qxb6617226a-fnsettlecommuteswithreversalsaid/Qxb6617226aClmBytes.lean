import Derived.Test.Qxb6617226aClm
namespace Go.Proofs.Qxb6617226a
open Go.RowKit

set_option maxRecDepth 100000 in
set_option maxHeartbeats 1000000 in
theorem bytes8 (v : Value) (cs : List Cm) (w : World) (hP : K w v cs) :
    Calls Try.prog 8 #[v] w fun e w' => (e = .returned (.bool true) ∨ e = .returned (.bool false)) ∧ w' = w := by
  obtain ⟨a, cap, rfl, hl, hk⟩ := hP
  obtain ⟨n, hn⟩ : ∃ n, cs.length = n := ⟨_, rfl⟩
  rw [hn] at hl hk ⊢
  clear hn
  have HK : Hid (∀ i, i < n → ∃ b off ra rc, a = some ⟨b, off, none⟩ ∧ Five w b (off + i * 5) (cat cs i) ra rc) := hk
  clear hk
  by_cases c1 : 1048576 < n
  · go_enter Try.func8, Try.ntmps8
    go_wp2
    go_ret
    exact ⟨Or.inr rfl, rfl⟩
  have d1 : decide ((1048576 : Int) < (n : Int)) = false := decide_eq_false (by omega)
  go_enter Try.func8, Try.ntmps8
  go_wp2
  go_loop [3, 4] (fun t i => ∃ (q : Int) (k : Nat), 0 ≤ q ∧ q ≤ 1048576 ∧ t = .int .i64 q ∧ k ≤ n ∧ i = .int .i64 k) (fun _ i => n - (intOf i).toNat)
  case atStart => exact ⟨_, 0, by omega, by omega, rfl, Nat.zero_le _, rfl⟩
  case round =>
    obtain ⟨q, i, hq0, hq1, rfl, hi, rfl⟩ := hrel
    by_cases hlt : i < n
    · obtain ⟨b, off, ra, rc, rfl, h5⟩ := HK.out i hlt
      obtain ⟨c, hci⟩ : ∃ c, cat cs i = c := ⟨_, rfl⟩
      rw [hci] at h5
      clear hci
      have f0 := h5.c0
      have f1 := h5.c1
      have f4 := h5.c4
      have z0 := h5.s0
      have z1 := h5.s1
      have z2 := h5.len
      obtain ⟨nmz, hnmz⟩ : ∃ z, c.name = z := ⟨_, rfl⟩
      obtain ⟨owz, howz⟩ : ∃ z, c.owner = z := ⟨_, rfl⟩
      obtain ⟨n1, hn1⟩ : ∃ z, c.rivals.length = z := ⟨_, rfl⟩
      rw [hnmz] at f0 z0
      rw [howz] at f1 z1
      rw [hn1] at f4 z2
      have HN1 : Hid (c.rivals.length = n1) := hn1
      have H5 : Hid (Five w b (off + i * 5) c ra rc) := h5
      clear h5 hnmz howz hn1
      by_cases c2 : 1048576 < nmz.size
      · go_wp2
        go_ret
        first | exact ⟨Or.inl rfl, rfl⟩ | exact ⟨Or.inr rfl, rfl⟩
      by_cases c3 : 1048576 < q + nmz.size
      · go_wp2
        go_ret
        first | exact ⟨Or.inl rfl, rfl⟩ | exact ⟨Or.inr rfl, rfl⟩
      by_cases c4 : 1048576 < owz.size
      · go_wp2
        go_ret
        first | exact ⟨Or.inl rfl, rfl⟩ | exact ⟨Or.inr rfl, rfl⟩
      by_cases c5 : 1048576 < q + nmz.size + owz.size
      · go_wp2
        go_ret
        first | exact ⟨Or.inl rfl, rfl⟩ | exact ⟨Or.inr rfl, rfl⟩
      by_cases c6 : 1048576 < n1
      · go_wp2
        go_ret
        first | exact ⟨Or.inl rfl, rfl⟩ | exact ⟨Or.inr rfl, rfl⟩
      by_cases c7 : 1048576 < q + nmz.size + owz.size + n1
      · go_wp2
        go_ret
        first | exact ⟨Or.inl rfl, rfl⟩ | exact ⟨Or.inr rfl, rfl⟩
      have d2 : decide ((1048576 : Int) < (nmz.size : Int)) = false := decide_eq_false (by omega)
      have d3 : decide (1048576 < q + nmz.size) = false := decide_eq_false (by omega)
      have d4 : decide ((1048576 : Int) < (owz.size : Int)) = false := decide_eq_false (by omega)
      have d5 : decide (1048576 < q + nmz.size + owz.size) = false := decide_eq_false (by omega)
      have d6 : decide ((1048576 : Int) < (n1 : Int)) = false := decide_eq_false (by omega)
      have d7 : decide (1048576 < q + nmz.size + owz.size + n1) = false := decide_eq_false (by omega)
      go_wp2
      go_loop [3, 5] (fun t j => ∃ (q : Int) (k : Nat), 0 ≤ q ∧ q ≤ 1048576 ∧ t = .int .i64 q ∧ k ≤ n1 ∧ j = .int .i64 k) (fun _ j => n1 - (intOf j).toNat)
      case atStart => exact ⟨_, 0, by omega, by omega, rfl, Nat.zero_le _, rfl⟩
      case round =>
        obtain ⟨q', j, hq0', hq1', rfl, hj, rfl⟩ := hrel
        by_cases hlt1 : j < n1
        · obtain ⟨b1, off1, rfl, hc1⟩ := H5.out.row j (by rw [HN1.out]; exact hlt1)
          have hsz := H5.out.each j (by rw [HN1.out]; exact hlt1)
          generalize sat c.rivals j = s at *
          by_cases c8 : 1048576 < s.size
          · go_wp2
            go_ret
            first | exact ⟨Or.inl rfl, rfl⟩ | exact ⟨Or.inr rfl, rfl⟩
          by_cases c9 : 1048576 < q' + s.size
          · go_wp2
            go_ret
            first | exact ⟨Or.inl rfl, rfl⟩ | exact ⟨Or.inr rfl, rfl⟩
          go_wp2
          go_round
          case rel => exact ⟨q' + s.size, j + 1, by omega, by omega, rfl, by omega, by go_num⟩
          case measure => simp [intOf]; omega
        · go_wp2
          go_round
          case rel => exact ⟨q', i + 1, by omega, by omega, rfl, by omega, by go_num⟩
          case measure => simp [intOf]; omega
    · go_wp2
      go_ret
      exact ⟨Or.inl rfl, rfl⟩
set_option maxRecDepth 100000 in
set_option maxHeartbeats 1000000 in
theorem bytes16 (v : Value) (cs : List Cm) (w : World) (hP : K w v cs) :
    Calls Try.prog 16 #[v] w fun e w' => (e = .returned (.bool true) ∧ Hid (∀ i, i < cs.length → (cat cs i).name.size ≤ 1048576) ∨ e = .returned (.bool false)) ∧ w' = w := by
  obtain ⟨a, cap, rfl, hl, hk⟩ := hP
  obtain ⟨n, hn⟩ : ∃ n, cs.length = n := ⟨_, rfl⟩
  rw [hn] at hl hk ⊢
  clear hn
  have HK : Hid (∀ i, i < n → ∃ b off ra rc, a = some ⟨b, off, none⟩ ∧ Five w b (off + i * 5) (cat cs i) ra rc) := hk
  clear hk
  by_cases c1 : 1048576 < n
  · go_enter Try.func16, Try.ntmps16
    go_wp2
    go_ret
    exact ⟨Or.inr rfl, rfl⟩
  have d1 : decide ((1048576 : Int) < (n : Int)) = false := decide_eq_false (by omega)
  go_enter Try.func16, Try.ntmps16
  go_wp2
  go_loop [3, 4] (fun t i => ∃ (q : Int) (k : Nat), 0 ≤ q ∧ q ≤ 1048576 ∧ t = .int .i64 q ∧ k ≤ n ∧ i = .int .i64 k ∧ Hid (∀ j, j < k → (cat cs j).name.size ≤ 1048576)) (fun _ i => n - (intOf i).toNat)
  case atStart => exact ⟨_, 0, by omega, by omega, rfl, Nat.zero_le _, rfl, fun j hj => absurd hj (by omega)⟩
  case round =>
    obtain ⟨q, i, hq0, hq1, rfl, hi, rfl, HS⟩ := hrel
    by_cases hlt : i < n
    · obtain ⟨b, off, ra, rc, rfl, h5⟩ := HK.out i hlt
      obtain ⟨c, hci⟩ : ∃ c, cat cs i = c := ⟨_, rfl⟩
      rw [hci] at h5
      have HCI : Hid (cat cs i = c) := hci
      clear hci
      have f0 := h5.c0
      have f1 := h5.c1
      have f4 := h5.c4
      have z0 := h5.s0
      have z1 := h5.s1
      have z2 := h5.len
      obtain ⟨nmz, hnmz⟩ : ∃ z, c.name = z := ⟨_, rfl⟩
      obtain ⟨owz, howz⟩ : ∃ z, c.owner = z := ⟨_, rfl⟩
      obtain ⟨n1, hn1⟩ : ∃ z, c.rivals.length = z := ⟨_, rfl⟩
      have HNM : Hid ((cat cs i).name = nmz) := by rw [HCI.out]; exact hnmz
      rw [hnmz] at f0 z0
      rw [howz] at f1 z1
      rw [hn1] at f4 z2
      have HN1 : Hid (c.rivals.length = n1) := hn1
      have H5 : Hid (Five w b (off + i * 5) c ra rc) := h5
      clear h5 hnmz howz hn1 HCI
      by_cases c2 : 1048576 < nmz.size
      · go_wp2
        go_ret
        exact ⟨Or.inr rfl, rfl⟩
      by_cases c3 : 1048576 < q + nmz.size
      · go_wp2
        go_ret
        exact ⟨Or.inr rfl, rfl⟩
      by_cases c4 : 1048576 < owz.size
      · go_wp2
        go_ret
        exact ⟨Or.inr rfl, rfl⟩
      by_cases c5 : 1048576 < q + nmz.size + owz.size
      · go_wp2
        go_ret
        exact ⟨Or.inr rfl, rfl⟩
      by_cases c6 : 1048576 < n1
      · go_wp2
        go_ret
        exact ⟨Or.inr rfl, rfl⟩
      by_cases c7 : 1048576 < q + nmz.size + owz.size + n1
      · go_wp2
        go_ret
        exact ⟨Or.inr rfl, rfl⟩
      have HS' : Hid (∀ j, j < i + 1 → (cat cs j).name.size ≤ 1048576) := fun j hj => by
        rcases Nat.lt_succ_iff_lt_or_eq.1 hj with h | h
        · exact HS.out j h
        · rw [h, HNM.out]; omega
      clear HS HNM
      have d2 : decide ((1048576 : Int) < (nmz.size : Int)) = false := decide_eq_false (by omega)
      have d3 : decide (1048576 < q + nmz.size) = false := decide_eq_false (by omega)
      have d4 : decide ((1048576 : Int) < (owz.size : Int)) = false := decide_eq_false (by omega)
      have d5 : decide (1048576 < q + nmz.size + owz.size) = false := decide_eq_false (by omega)
      have d6 : decide ((1048576 : Int) < (n1 : Int)) = false := decide_eq_false (by omega)
      have d7 : decide (1048576 < q + nmz.size + owz.size + n1) = false := decide_eq_false (by omega)
      go_wp2
      go_loop [3, 5] (fun t j => ∃ (q : Int) (k : Nat), 0 ≤ q ∧ q ≤ 1048576 ∧ t = .int .i64 q ∧ k ≤ n1 ∧ j = .int .i64 k) (fun _ j => n1 - (intOf j).toNat)
      case atStart => exact ⟨_, 0, by omega, by omega, rfl, Nat.zero_le _, rfl⟩
      case round =>
        obtain ⟨q', j, hq0', hq1', rfl, hj, rfl⟩ := hrel
        by_cases hlt1 : j < n1
        · obtain ⟨b1, off1, rfl, hc1⟩ := H5.out.row j (by rw [HN1.out]; exact hlt1)
          have hsz := H5.out.each j (by rw [HN1.out]; exact hlt1)
          generalize sat c.rivals j = s at *
          by_cases c8 : 1048576 < s.size
          · go_wp2
            go_ret
            exact ⟨Or.inr rfl, rfl⟩
          by_cases c9 : 1048576 < q' + s.size
          · go_wp2
            go_ret
            exact ⟨Or.inr rfl, rfl⟩
          go_wp2
          go_round
          case rel => exact ⟨q' + s.size, j + 1, by omega, by omega, rfl, by omega, by go_num⟩
          case measure => simp [intOf]; omega
        · go_wp2
          go_round
          case rel => exact ⟨q', i + 1, by omega, by omega, rfl, by omega, by go_num, HS'⟩
          case measure => simp [intOf]; omega
    · have : i = n := by omega
      subst this
      go_wp2
      go_ret
      exact ⟨Or.inl rfl, rfl⟩
set_option maxRecDepth 100000 in
set_option maxHeartbeats 1000000 in
theorem bytes26 (v : Value) (cs : List Cm) (w : World) (hP : K w v cs) :
    Calls Try.prog 26 #[v] w fun e w' => (e = .returned (.bool true) ∧ Hid (∀ i, i < cs.length → (cat cs i).name.size ≤ 1048576) ∨ e = .returned (.bool false)) ∧ w' = w := by
  obtain ⟨a, cap, rfl, hl, hk⟩ := hP
  obtain ⟨n, hn⟩ : ∃ n, cs.length = n := ⟨_, rfl⟩
  rw [hn] at hl hk ⊢
  clear hn
  have HK : Hid (∀ i, i < n → ∃ b off ra rc, a = some ⟨b, off, none⟩ ∧ Five w b (off + i * 5) (cat cs i) ra rc) := hk
  clear hk
  by_cases c1 : 1048576 < n
  · go_enter Try.func26, Try.ntmps26
    go_wp2
    go_ret
    exact ⟨Or.inr rfl, rfl⟩
  have d1 : decide ((1048576 : Int) < (n : Int)) = false := decide_eq_false (by omega)
  go_enter Try.func26, Try.ntmps26
  go_wp2
  go_loop [3, 4] (fun t i => ∃ (q : Int) (k : Nat), 0 ≤ q ∧ q ≤ 1048576 ∧ t = .int .i64 q ∧ k ≤ n ∧ i = .int .i64 k ∧ Hid (∀ j, j < k → (cat cs j).name.size ≤ 1048576)) (fun _ i => n - (intOf i).toNat)
  case atStart => exact ⟨_, 0, by omega, by omega, rfl, Nat.zero_le _, rfl, fun j hj => absurd hj (by omega)⟩
  case round =>
    obtain ⟨q, i, hq0, hq1, rfl, hi, rfl, HS⟩ := hrel
    by_cases hlt : i < n
    · obtain ⟨b, off, ra, rc, rfl, h5⟩ := HK.out i hlt
      obtain ⟨c, hci⟩ : ∃ c, cat cs i = c := ⟨_, rfl⟩
      rw [hci] at h5
      have HCI : Hid (cat cs i = c) := hci
      clear hci
      have f0 := h5.c0
      have f1 := h5.c1
      have f4 := h5.c4
      have z0 := h5.s0
      have z1 := h5.s1
      have z2 := h5.len
      obtain ⟨nmz, hnmz⟩ : ∃ z, c.name = z := ⟨_, rfl⟩
      obtain ⟨owz, howz⟩ : ∃ z, c.owner = z := ⟨_, rfl⟩
      obtain ⟨n1, hn1⟩ : ∃ z, c.rivals.length = z := ⟨_, rfl⟩
      have HNM : Hid ((cat cs i).name = nmz) := by rw [HCI.out]; exact hnmz
      rw [hnmz] at f0 z0
      rw [howz] at f1 z1
      rw [hn1] at f4 z2
      have HN1 : Hid (c.rivals.length = n1) := hn1
      have H5 : Hid (Five w b (off + i * 5) c ra rc) := h5
      clear h5 hnmz howz hn1 HCI
      by_cases c2 : 1048576 < nmz.size
      · go_wp2
        go_ret
        exact ⟨Or.inr rfl, rfl⟩
      by_cases c3 : 1048576 < q + nmz.size
      · go_wp2
        go_ret
        exact ⟨Or.inr rfl, rfl⟩
      by_cases c4 : 1048576 < owz.size
      · go_wp2
        go_ret
        exact ⟨Or.inr rfl, rfl⟩
      by_cases c5 : 1048576 < q + nmz.size + owz.size
      · go_wp2
        go_ret
        exact ⟨Or.inr rfl, rfl⟩
      by_cases c6 : 1048576 < n1
      · go_wp2
        go_ret
        exact ⟨Or.inr rfl, rfl⟩
      by_cases c7 : 1048576 < q + nmz.size + owz.size + n1
      · go_wp2
        go_ret
        exact ⟨Or.inr rfl, rfl⟩
      have HS' : Hid (∀ j, j < i + 1 → (cat cs j).name.size ≤ 1048576) := fun j hj => by
        rcases Nat.lt_succ_iff_lt_or_eq.1 hj with h | h
        · exact HS.out j h
        · rw [h, HNM.out]; omega
      clear HS HNM
      have d2 : decide ((1048576 : Int) < (nmz.size : Int)) = false := decide_eq_false (by omega)
      have d3 : decide (1048576 < q + nmz.size) = false := decide_eq_false (by omega)
      have d4 : decide ((1048576 : Int) < (owz.size : Int)) = false := decide_eq_false (by omega)
      have d5 : decide (1048576 < q + nmz.size + owz.size) = false := decide_eq_false (by omega)
      have d6 : decide ((1048576 : Int) < (n1 : Int)) = false := decide_eq_false (by omega)
      have d7 : decide (1048576 < q + nmz.size + owz.size + n1) = false := decide_eq_false (by omega)
      go_wp2
      go_loop [3, 5] (fun t j => ∃ (q : Int) (k : Nat), 0 ≤ q ∧ q ≤ 1048576 ∧ t = .int .i64 q ∧ k ≤ n1 ∧ j = .int .i64 k) (fun _ j => n1 - (intOf j).toNat)
      case atStart => exact ⟨_, 0, by omega, by omega, rfl, Nat.zero_le _, rfl⟩
      case round =>
        obtain ⟨q', j, hq0', hq1', rfl, hj, rfl⟩ := hrel
        by_cases hlt1 : j < n1
        · obtain ⟨b1, off1, rfl, hc1⟩ := H5.out.row j (by rw [HN1.out]; exact hlt1)
          have hsz := H5.out.each j (by rw [HN1.out]; exact hlt1)
          generalize sat c.rivals j = s at *
          by_cases c8 : 1048576 < s.size
          · go_wp2
            go_ret
            exact ⟨Or.inr rfl, rfl⟩
          by_cases c9 : 1048576 < q' + s.size
          · go_wp2
            go_ret
            exact ⟨Or.inr rfl, rfl⟩
          go_wp2
          go_round
          case rel => exact ⟨q' + s.size, j + 1, by omega, by omega, rfl, by omega, by go_num⟩
          case measure => simp [intOf]; omega
        · go_wp2
          go_round
          case rel => exact ⟨q', i + 1, by omega, by omega, rfl, by omega, by go_num, HS'⟩
          case measure => simp [intOf]; omega
    · have : i = n := by omega
      subst this
      go_wp2
      go_ret
      exact ⟨Or.inl rfl, rfl⟩
end Go.Proofs.Qxb6617226a
