import Derived.Test.Qxb6617226aCls
namespace Go.Proofs.Qxb6617226a
open Go.RowKit

def cM (M : List (List Cl)) (j : Nat) : Nat := ((M.take j).map List.length).sum
def cP (P : List (List (List Cl))) (i : Nat) : Nat := ((P.take i).map fun M => cM M M.length).sum

theorem sum_take_succ {α : Type} (f : α → Nat) (l : List α) (d : α) (k : Nat) (h : k < l.length) : ((l.take (k + 1)).map f).sum = ((l.take k).map f).sum + f (l.getD k d) := by
  rw [List.take_succ_eq_append_getElem h, List.map_append, List.sum_append, List.getD_eq_getElem?_getD, List.getElem?_eq_getElem h]
  simp only [List.map_cons, List.map_nil, List.sum_cons, List.sum_nil, Option.getD_some, Nat.add_zero]
theorem cM_succ (M : List (List Cl)) (j : Nat) (h : j < M.length) : cM M (j + 1) = cM M j + (at1 M j).length := sum_take_succ _ M [] j h
theorem cP_succ (P : List (List (List Cl))) (i : Nat) (h : i < P.length) : cP P (i + 1) = cP P i + cM (at2 P i) (at2 P i).length := sum_take_succ _ P [] i h

/-- What a 'false' of pairedTooBig tells. -/
structure Small (P : List (List (List Cl))) : Prop where
  n : P.length ≤ 1048576
  m : ∀ i, i < P.length → (at2 P i).length ≤ 1048576
  c : cP P P.length ≤ 4096

set_option maxHeartbeats 400000 in
theorem add_ok (t n : Int) (w : World) (h0 : 0 ≤ t) (h1 : 0 ≤ n) (h2 : t + n ≤ 1048576) :
    Calls Try.prog 35 #[.int .i64 t, .int .i64 n] w fun e w' => e = .returned (.int .i64 (t + n)) ∧ w' = w := by
  have d1 : decide (t < 0) = false := decide_eq_false (by omega)
  have d2 : decide (n < 0) = false := decide_eq_false (by omega)
  have d3 : decide (1048576 - t < n) = false := decide_eq_false (by omega)
  go_enter Try.func35, Try.ntmps35
  go_wp2
  go_ret
  exact ⟨rfl, rfl⟩
set_option maxHeartbeats 400000 in
theorem add_no (t n : Int) (w : World) (h0 : 0 ≤ t) (h1 : 0 ≤ n) (h2 : 1048576 < t + n) (h3 : n ≤ 9223372036854775807) (h4 : t ≤ 1048576) :
    Calls Try.prog 35 #[.int .i64 t, .int .i64 n] w fun e w' => e = .returned (.int .i64 (-1)) ∧ w' = w := by
  have d1 : decide (t < 0) = false := decide_eq_false (by omega)
  have d2 : decide (n < 0) = false := decide_eq_false (by omega)
  have d3 : decide (1048576 - t < n) = true := decide_eq_true (by omega)
  go_enter Try.func35, Try.ntmps35
  go_wp2
  go_ret
  exact ⟨rfl, rfl⟩
set_option maxHeartbeats 400000 in
theorem add_neg (n : Int) (w : World) :
    Calls Try.prog 35 #[.int .i64 (-1), .int .i64 n] w fun e w' => e = .returned (.int .i64 (-1)) ∧ w' = w := by
  go_enter Try.func35, Try.ntmps35
  go_wp2
  go_ret
  exact ⟨rfl, rfl⟩

set_option maxRecDepth 100000 in
set_option maxHeartbeats 1000000 in
theorem big29 (v : Value) (P : List (List (List Cl))) (w : World) (hP : C2 w v P) :
    Calls Try.prog 29 #[v] w fun e w' => (e = .returned (.bool true) ∨ (e = .returned (.bool false) ∧ Small P)) ∧ w' = w := by
  obtain ⟨a, cap, rfl, hl, hk⟩ := hP
  have HK : Hid (∀ i, i < P.length → ∃ b off u, a = some ⟨b, off, none⟩ ∧ w.cell? ⟨b, off + i, none⟩ = some u ∧ C1 w u (at2 P i)) := hk
  clear hk
  obtain ⟨n, hn⟩ : ∃ n, P.length = n := ⟨_, rfl⟩
  rw [hn] at HK hl ⊢
  have HN : Hid (P.length = n) := hn
  clear hn
  go_enter Try.func29, Try.ntmps29
  go_wp2
  go_loop [3, 4, 5] (fun t c i => ∃ (q : Int) (k : Nat), 24 * (k : Int) ≤ q ∧ q ≤ 1048576 ∧ t = .int .i64 q ∧ c = .int .i64 (cP P k) ∧ cP P k ≤ 4096 ∧ k ≤ n ∧ i = .int .i64 k ∧ Hid (∀ i', i' < k → (at2 P i').length ≤ 1048576)) (fun _ _ i => n - (intOf i).toNat)
  case atStart => exact ⟨0, 0, by omega, by omega, rfl, rfl, Nat.zero_le _, Nat.zero_le _, rfl, fun i' h => absurd h (by omega)⟩
  case round =>
    obtain ⟨q, i, hq0, hq1, rfl, rfl, hc4, hi, rfl, hm⟩ := hrel
    by_cases hlt : i < n
    · obtain ⟨b, off, u, rfl, hc, a1, cap1, rfl, hl1, hk1⟩ := HK.out i hlt
      obtain ⟨n1, hn1⟩ : ∃ n1, (at2 P i).length = n1 := ⟨_, rfl⟩
      rw [hn1] at hk1 hc hl1
      have HN1 : Hid ((at2 P i).length = n1) := hn1
      clear hn1
      have HK1 : Hid (∀ j, j < n1 → ∃ b off u, a1 = some ⟨b, off, none⟩ ∧ w.cell? ⟨b, off + j, none⟩ = some u ∧ C0 w u (at1 (at2 P i) j)) := hk1
      clear hk1
      have HS : Hid (cP P (i + 1) = cP P i + cM (at2 P i) n1) := by
        show _ = _
        rw [cP_succ P i (by rw [HN.out]; exact hlt), HN1.out]
      obtain ⟨cp, hcp⟩ : ∃ cp, cP P i = cp := ⟨_, rfl⟩
      rw [hcp] at hc4 HS ⊢
      clear hcp
      by_cases c1 : 1048576 < q + 24
      · go_wp2_with (go_at_call 35; refine (add_no _ _ _ (by omega) (by omega) c1 (by omega) (by omega)).mono ?_; rintro e w' ⟨rfl, rfl⟩)
        go_ret
        exact ⟨Or.inl rfl, rfl⟩
      have d1 : decide (q + 24 < 0) = false := decide_eq_false (by omega)
      go_wp2_with (go_at_call 35; refine (add_ok _ _ _ (by omega) (by omega) (by omega)).mono ?_; rintro e w' ⟨rfl, rfl⟩)
      go_loop [3, 4, 6] (fun t c j => ∃ (q : Int) (k : Nat), 24 * ((i : Int) + 1) + 24 * (k : Int) ≤ q ∧ q ≤ 1048576 ∧ t = .int .i64 q ∧ c = .int .i64 ((cp + cM (at2 P i) k : Nat) : Int) ∧ cp + cM (at2 P i) k ≤ 4096 ∧ k ≤ n1 ∧ j = .int .i64 k) (fun _ _ j => n1 - (intOf j).toNat)
      case atStart => exact ⟨q + 24, 0, by omega, by omega, rfl, rfl, hc4, Nat.zero_le _, rfl⟩
      case round =>
        obtain ⟨q', j, hq0', hq1', rfl, rfl, hc4', hj, rfl⟩ := hrel
        by_cases hlt1 : j < n1
        · obtain ⟨b1, off1, u1, rfl, hc1, a2, cap2, rfl, hl2, hk2⟩ := HK1.out j hlt1
          obtain ⟨n2, hn2⟩ : ∃ n2, (at1 (at2 P i) j).length = n2 := ⟨_, rfl⟩
          rw [hn2] at hk2 hc1 hl2
          have HN2 : Hid ((at1 (at2 P i) j).length = n2) := hn2
          clear hn2
          have HK2 : Hid (∀ k, k < n2 → ∃ b off, a2 = some ⟨b, off, none⟩ ∧ w'.cell? ⟨b, off + k * 2, none⟩ = some (.string (nm (at1 (at2 P i) j) k)) ∧ w'.cell? ⟨b, off + k * 2 + 1, none⟩ = some (.bool (ns (at1 (at2 P i) j) k)) ∧ (nm (at1 (at2 P i) j) k).size ≤ 9223372036854775807) := hk2
          clear hk2
          have HS1 : Hid (cM (at2 P i) (j + 1) = cM (at2 P i) j + n2) := by
            show _ = _
            rw [cM_succ (at2 P i) j (by rw [HN1.out]; exact hlt1), HN2.out]
          obtain ⟨cm, hcm⟩ : ∃ cm, cp + cM (at2 P i) j = cm := ⟨_, rfl⟩
          have HCM : Hid (cp + cM (at2 P i) j = cm) := hcm
          rw [hcm] at hc4' ⊢
          clear hcm
          by_cases c2 : 1048576 < q' + 24
          · go_wp2_with (go_at_call 35; refine (add_no _ _ _ (by omega) (by omega) c2 (by omega) (by omega)).mono ?_; rintro e w' ⟨rfl, rfl⟩)
            go_ret
            exact ⟨Or.inl rfl, rfl⟩
          have d2 : decide (q' + 24 < 0) = false := decide_eq_false (by omega)
          go_wp2_with (go_at_call 35; refine (add_ok _ _ _ (by omega) (by omega) (by omega)).mono ?_; rintro e w2 ⟨rfl, hw2⟩; cases hw2)
          go_loop [3, 4, 7] (fun t c j' => ∃ (q : Int) (k : Nat), 24 * ((i : Int) + 1) + 24 * ((j : Int) + 1) ≤ q ∧ q ≤ 1048576 ∧ t = .int .i64 q ∧ c = .int .i64 ((cm + k : Nat) : Int) ∧ cm + k ≤ 4096 ∧ k ≤ n2 ∧ j' = .int .i64 k) (fun _ _ j => n2 - (intOf j).toNat)
          case atStart => exact ⟨q' + 24, 0, by omega, by omega, rfl, rfl, hc4', Nat.zero_le _, rfl⟩
          case round =>
            obtain ⟨q2, k, hq02, hq12, rfl, rfl, hc5, hk, rfl⟩ := hrel
            by_cases hlt2 : k < n2
            · obtain ⟨b2, off2, rfl, hc2, hc3, hsz⟩ := HK2.out k hlt2
              generalize nm (at1 (at2 P i) j) k = s at *
              clear hc3
              have ck : ((cm + k : Nat) : Int) ≤ 4096 := by omega
              by_cases c6 : 4096 < ((cm + k : Nat) : Int) + 1
              · go_wp2
                go_ret
                exact ⟨Or.inl rfl, rfl⟩
              by_cases c7 : 1048576 < q2 + 24
              · go_wp2_with fail
                refine (add_no _ _ _ (by omega) (by omega) c7 (by omega) (by omega)).mono ?_
                rintro e w3 ⟨rfl, hw3⟩
                cases hw3
                go_wp2_with fail
                refine (add_neg _ _).mono ?_
                rintro e w3 ⟨rfl, hw3⟩
                cases hw3
                go_wp2
                go_ret
                exact ⟨Or.inl rfl, rfl⟩
              by_cases c8 : 1048576 < q2 + 24 + s.size
              · go_wp2_with fail
                refine (add_ok _ _ _ (by omega) (by omega) (by omega)).mono ?_
                rintro e w3 ⟨rfl, hw3⟩
                cases hw3
                go_wp2_with fail
                refine (add_no _ _ _ (by omega) (by omega) c8 (by omega) (by omega)).mono ?_
                rintro e w3 ⟨rfl, hw3⟩
                cases hw3
                go_wp2
                go_ret
                exact ⟨Or.inl rfl, rfl⟩
              · go_wp2_with fail
                refine (add_ok _ _ _ (by omega) (by omega) (by omega)).mono ?_
                rintro e w3 ⟨rfl, hw3⟩
                cases hw3
                go_wp2_with fail
                refine (add_ok _ _ _ (by omega) (by omega) (by omega)).mono ?_
                rintro e w3 ⟨rfl, hw3⟩
                cases hw3
                go_wp2
                go_round
                case rel => exact ⟨q2 + 24 + s.size, k + 1, by omega, by omega, rfl, by go_num, by omega, by omega, by go_num⟩
                case measure => simp [intOf]; omega
            · have hke : n2 = k := by omega
              subst hke
              go_wp2
              go_round
              case rel => exact ⟨q2, j + 1, by omega, by omega, rfl, by rw [HS1.out, ← HCM.out, Nat.add_assoc], by rw [HS1.out, ← Nat.add_assoc, HCM.out]; exact hc5, by omega, by go_num⟩
              case measure => simp [intOf]; omega
        · have hje : n1 = j := by omega
          subst hje
          go_wp2
          go_round
          case rel => exact ⟨q', i + 1, by omega, by omega, rfl, by rw [HS.out], by rw [HS.out]; exact hc4', by omega, by go_num, fun i' h => by
            by_cases e : i' = i
            · subst e; rw [HN1.out]; omega
            · exact hm.out i' (by omega)⟩
          case measure => simp [intOf]; omega
    · have hie : n = i := by omega
      subst hie
      go_wp2
      go_ret
      exact ⟨Or.inr ⟨rfl, by rw [HN.out]; omega, by rw [HN.out]; exact hm.out, by rw [HN.out]; exact hc4⟩, rfl⟩
end Go.Proofs.Qxb6617226a
