import Derived.Test.Qxb6617226aCls
namespace Go.Proofs.Qxb6617226a
open Go.RowKit

set_option maxRecDepth 100000 in
set_option maxHeartbeats 1000000 in
theorem bytes28 (v : Value) (P : List (List (List Cl))) (w : World) (hP : C2 w v P) :
    Calls Try.prog 28 #[v] w fun e w' => (e = .returned (.bool true) ∨ e = .returned (.bool false)) ∧ w' = w := by
  obtain ⟨a, cap, rfl, hl, hk⟩ := hP
  have HK : Hid (∀ i, i < P.length → ∃ b off u, a = some ⟨b, off, none⟩ ∧ w.cell? ⟨b, off + i, none⟩ = some u ∧ C1 w u (at2 P i)) := hk
  clear hk
  generalize hn : P.length = n at *
  have HN : Hid (P.length = n) := hn
  clear hn
  by_cases c1 : 1048576 < n
  · go_enter Try.func28, Try.ntmps28
    go_wp2
    go_ret
    first | exact ⟨Or.inl rfl, rfl⟩ | exact ⟨Or.inr rfl, rfl⟩
  have d1 : decide ((1048576 : Int) < (n : Int)) = false := decide_eq_false (by omega)
  go_enter Try.func28, Try.ntmps28
  go_wp2
  go_loop [3, 4] (fun t i => ∃ (q : Int) (k : Nat), 0 ≤ q ∧ q ≤ 1048576 ∧ t = .int .i64 q ∧ k ≤ n ∧ i = .int .i64 k) (fun _ i => n - (intOf i).toNat)
  case atStart => exact ⟨_, 0, by omega, by omega, rfl, Nat.zero_le _, rfl⟩
  case round =>
    obtain ⟨q, i, hq0, hq1, rfl, hi, rfl⟩ := hrel
    by_cases hlt : i < n
    · obtain ⟨b, off, u, rfl, hc, a1, cap1, rfl, hl1, hk1⟩ := HK.out i hlt
      generalize hn1 : (at2 P i).length = n1 at *
      clear hn1
      have HK1 : Hid (∀ j, j < n1 → ∃ b off u, a1 = some ⟨b, off, none⟩ ∧ w.cell? ⟨b, off + j, none⟩ = some u ∧ C0 w u (at1 (at2 P i) j)) := hk1
      clear hk1
      by_cases c2 : 1048576 < n1
      · go_wp2
        go_ret
        first | exact ⟨Or.inl rfl, rfl⟩ | exact ⟨Or.inr rfl, rfl⟩
      by_cases c3 : 1048576 < q + n1
      · go_wp2
        go_ret
        first | exact ⟨Or.inl rfl, rfl⟩ | exact ⟨Or.inr rfl, rfl⟩
      have d2 : decide ((1048576 : Int) < (n1 : Int)) = false := decide_eq_false (by omega)
      have d3 : decide (1048576 < q + n1) = false := decide_eq_false (by omega)
      go_wp2
      go_loop [3, 5] (fun t j => ∃ (q : Int) (k : Nat), 0 ≤ q ∧ q ≤ 1048576 ∧ t = .int .i64 q ∧ k ≤ n1 ∧ j = .int .i64 k) (fun _ j => n1 - (intOf j).toNat)
      case atStart => exact ⟨_, 0, by omega, by omega, rfl, Nat.zero_le _, rfl⟩
      case round =>
        obtain ⟨q', j, hq0', hq1', rfl, hj, rfl⟩ := hrel
        by_cases hlt1 : j < n1
        · obtain ⟨b1, off1, u1, rfl, hc1, a2, cap2, rfl, hl2, hk2⟩ := HK1.out j hlt1
          generalize hn2 : (at1 (at2 P i) j).length = n2 at *
          clear hn2
          have HK2 : Hid (∀ k, k < n2 → ∃ b off, a2 = some ⟨b, off, none⟩ ∧ w.cell? ⟨b, off + k * 2, none⟩ = some (.string (nm (at1 (at2 P i) j) k)) ∧ w.cell? ⟨b, off + k * 2 + 1, none⟩ = some (.bool (ns (at1 (at2 P i) j) k)) ∧ (nm (at1 (at2 P i) j) k).size ≤ 9223372036854775807) := hk2
          clear hk2
          by_cases c4 : 1048576 < n2
          · go_wp2
            go_ret
            first | exact ⟨Or.inl rfl, rfl⟩ | exact ⟨Or.inr rfl, rfl⟩
          by_cases c5 : 1048576 < q' + n2
          · go_wp2
            go_ret
            first | exact ⟨Or.inl rfl, rfl⟩ | exact ⟨Or.inr rfl, rfl⟩
          have d4 : decide ((1048576 : Int) < (n2 : Int)) = false := decide_eq_false (by omega)
          have d5 : decide (1048576 < q' + n2) = false := decide_eq_false (by omega)
          go_wp2
          go_loop [3, 6] (fun t j => ∃ (q : Int) (k : Nat), 0 ≤ q ∧ q ≤ 1048576 ∧ t = .int .i64 q ∧ k ≤ n2 ∧ j = .int .i64 k) (fun _ j => n2 - (intOf j).toNat)
          case atStart => exact ⟨_, 0, by omega, by omega, rfl, Nat.zero_le _, rfl⟩
          case round =>
            obtain ⟨q2, k, hq02, hq12, rfl, hk, rfl⟩ := hrel
            by_cases hlt2 : k < n2
            · obtain ⟨b2, off2, rfl, hc2, hc3, hsz⟩ := HK2.out k hlt2
              generalize nm (at1 (at2 P i) j) k = s at *
              clear hc3
              by_cases c6 : 1048576 < s.size
              · go_wp2
                go_ret
                first | exact ⟨Or.inl rfl, rfl⟩ | exact ⟨Or.inr rfl, rfl⟩
              by_cases c7 : 1048576 < q2 + s.size
              · go_wp2
                go_ret
                first | exact ⟨Or.inl rfl, rfl⟩ | exact ⟨Or.inr rfl, rfl⟩
              go_wp2
              go_round
              case rel => exact ⟨q2 + s.size, k + 1, by omega, by omega, rfl, by omega, by go_num⟩
              case measure => simp [intOf]; omega
            · go_wp2
              go_round
              case rel => exact ⟨q2, j + 1, by omega, by omega, rfl, by omega, by go_num⟩
              case measure => simp [intOf]; omega
        · go_wp2
          go_round
          case rel => exact ⟨q', i + 1, by omega, by omega, rfl, by omega, by go_num⟩
          case measure => simp [intOf]; omega
    · go_wp2
      go_ret
      first | exact ⟨Or.inl rfl, rfl⟩ | exact ⟨Or.inr rfl, rfl⟩
set_option maxRecDepth 100000 in
set_option maxHeartbeats 1000000 in
theorem bytes34 (v : Value) (P : List (List (List Cl))) (kk : Int) (w : World) (hP : C2 w v P) :
    Calls Try.prog 34 #[v, .int .i64 kk] w fun e w' => (e = .returned (.bool true) ∨ e = .returned (.bool false)) ∧ w' = w := by
  obtain ⟨a, cap, rfl, hl, hk⟩ := hP
  have HK : Hid (∀ i, i < P.length → ∃ b off u, a = some ⟨b, off, none⟩ ∧ w.cell? ⟨b, off + i, none⟩ = some u ∧ C1 w u (at2 P i)) := hk
  clear hk
  generalize hn : P.length = n at *
  have HN : Hid (P.length = n) := hn
  clear hn
  by_cases c1 : 1048576 < n
  · go_enter Try.func34, Try.ntmps34
    go_wp2
    go_ret
    first | exact ⟨Or.inl rfl, rfl⟩ | exact ⟨Or.inr rfl, rfl⟩
  have d1 : decide ((1048576 : Int) < (n : Int)) = false := decide_eq_false (by omega)
  go_enter Try.func34, Try.ntmps34
  go_wp2
  go_loop [5, 6] (fun t i => ∃ (q : Int) (k : Nat), 0 ≤ q ∧ q ≤ 1048576 ∧ t = .int .i64 q ∧ k ≤ n ∧ i = .int .i64 k) (fun _ i => n - (intOf i).toNat)
  case atStart => exact ⟨_, 0, by omega, by omega, rfl, Nat.zero_le _, rfl⟩
  case round =>
    obtain ⟨q, i, hq0, hq1, rfl, hi, rfl⟩ := hrel
    by_cases hlt : i < n
    · obtain ⟨b, off, u, rfl, hc, a1, cap1, rfl, hl1, hk1⟩ := HK.out i hlt
      generalize hn1 : (at2 P i).length = n1 at *
      clear hn1
      have HK1 : Hid (∀ j, j < n1 → ∃ b off u, a1 = some ⟨b, off, none⟩ ∧ w.cell? ⟨b, off + j, none⟩ = some u ∧ C0 w u (at1 (at2 P i) j)) := hk1
      clear hk1
      by_cases c2 : 1048576 < n1
      · go_wp2
        go_ret
        first | exact ⟨Or.inl rfl, rfl⟩ | exact ⟨Or.inr rfl, rfl⟩
      by_cases c3 : 1048576 < q + n1
      · go_wp2
        go_ret
        first | exact ⟨Or.inl rfl, rfl⟩ | exact ⟨Or.inr rfl, rfl⟩
      have d2 : decide ((1048576 : Int) < (n1 : Int)) = false := decide_eq_false (by omega)
      have d3 : decide (1048576 < q + n1) = false := decide_eq_false (by omega)
      go_wp2
      go_loop [5, 7] (fun t j => ∃ (q : Int) (k : Nat), 0 ≤ q ∧ q ≤ 1048576 ∧ t = .int .i64 q ∧ k ≤ n1 ∧ j = .int .i64 k) (fun _ j => n1 - (intOf j).toNat)
      case atStart => exact ⟨_, 0, by omega, by omega, rfl, Nat.zero_le _, rfl⟩
      case round =>
        obtain ⟨q', j, hq0', hq1', rfl, hj, rfl⟩ := hrel
        by_cases hlt1 : j < n1
        · obtain ⟨b1, off1, u1, rfl, hc1, a2, cap2, rfl, hl2, hk2⟩ := HK1.out j hlt1
          generalize hn2 : (at1 (at2 P i) j).length = n2 at *
          clear hn2
          have HK2 : Hid (∀ k, k < n2 → ∃ b off, a2 = some ⟨b, off, none⟩ ∧ w.cell? ⟨b, off + k * 2, none⟩ = some (.string (nm (at1 (at2 P i) j) k)) ∧ w.cell? ⟨b, off + k * 2 + 1, none⟩ = some (.bool (ns (at1 (at2 P i) j) k)) ∧ (nm (at1 (at2 P i) j) k).size ≤ 9223372036854775807) := hk2
          clear hk2
          by_cases c4 : 1048576 < n2
          · go_wp2
            go_ret
            first | exact ⟨Or.inl rfl, rfl⟩ | exact ⟨Or.inr rfl, rfl⟩
          by_cases c5 : 1048576 < q' + n2
          · go_wp2
            go_ret
            first | exact ⟨Or.inl rfl, rfl⟩ | exact ⟨Or.inr rfl, rfl⟩
          have d4 : decide ((1048576 : Int) < (n2 : Int)) = false := decide_eq_false (by omega)
          have d5 : decide (1048576 < q' + n2) = false := decide_eq_false (by omega)
          go_wp2
          go_loop [5, 8] (fun t j => ∃ (q : Int) (k : Nat), 0 ≤ q ∧ q ≤ 1048576 ∧ t = .int .i64 q ∧ k ≤ n2 ∧ j = .int .i64 k) (fun _ j => n2 - (intOf j).toNat)
          case atStart => exact ⟨_, 0, by omega, by omega, rfl, Nat.zero_le _, rfl⟩
          case round =>
            obtain ⟨q2, k, hq02, hq12, rfl, hk, rfl⟩ := hrel
            by_cases hlt2 : k < n2
            · obtain ⟨b2, off2, rfl, hc2, hc3, hsz⟩ := HK2.out k hlt2
              generalize nm (at1 (at2 P i) j) k = s at *
              clear hc3
              by_cases c6 : 1048576 < s.size
              · go_wp2
                go_ret
                first | exact ⟨Or.inl rfl, rfl⟩ | exact ⟨Or.inr rfl, rfl⟩
              by_cases c7 : 1048576 < q2 + s.size
              · go_wp2
                go_ret
                first | exact ⟨Or.inl rfl, rfl⟩ | exact ⟨Or.inr rfl, rfl⟩
              go_wp2
              go_round
              case rel => exact ⟨q2 + s.size, k + 1, by omega, by omega, rfl, by omega, by go_num⟩
              case measure => simp [intOf]; omega
            · go_wp2
              go_round
              case rel => exact ⟨q2, j + 1, by omega, by omega, rfl, by omega, by go_num⟩
              case measure => simp [intOf]; omega
        · go_wp2
          go_round
          case rel => exact ⟨q', i + 1, by omega, by omega, rfl, by omega, by go_num⟩
          case measure => simp [intOf]; omega
    · go_wp2
      go_ret
      first | exact ⟨Or.inl rfl, rfl⟩ | exact ⟨Or.inr rfl, rfl⟩
end Go.Proofs.Qxb6617226a
