import Derived.Test.Qxb6617226aFold
namespace Go.Proofs.Qxb6617226a
open Go.RowKit

theorem Try.info9 : (Try.prog.info? 9).map (fun i => (i.zero, i.size, i.bytes)) = some (some (.string ByteArray.empty), 1, 16) := by kernel_rfl

/-- A list of strings that the call owns. -/
def OwnS (w : World) (B : Nat) (v : Value) (xs : List ByteArray) : Prop := w.ownsRow B 9 1 v xs.length (xs.map Value.string)

theorem OwnS.snoc {w : World} {B : Nat} {v : Value} {xs : List ByteArray} {s : ByteArray} (h : w.ownsRow B 9 1 v (xs.length + 1) (xs.map Value.string ++ [.string s])) : OwnS w B v (xs ++ [s]) := by
  unfold OwnS
  rw [List.length_append, List.map_append]
  exact h

theorem OwnS.row {w : World} {B : Nat} {v : Value} {xs : List ByteArray} (h : OwnS w B v xs) (hl : xs.length ≤ 9223372036854775807) : SSl w v xs := by
  have h0 := h
  obtain ⟨h1, h2 | ⟨g, cap, cur, hv, _⟩⟩ := h
  · obtain ⟨hv, hn⟩ := h2
    exact ⟨none, 0, by rw [hv, hn], hl, fun j hj => absurd hj (by omega)⟩
  · refine ⟨_, cap, hv, hl, ?_⟩
    intro j hj
    have := World.ownsRow.cells h0 (g := g) (by rw [hv]; rfl) j (.string (sat xs j)) (by
      unfold sat; simp [List.getD_eq_getElem?_getD, hj])
    exact ⟨g, 0, rfl, by rw [← Go.WideShapes.add_plain]; exact this⟩

theorem own_step {B : Nat} {w0 wr w1 : World} {v : Value} {xs : List ByteArray} {o : Obj} (hb : Below B w0 wr) (hB : B ≤ wr.heap.size) (hown : OwnS wr B v xs) (hg : (wr.alloc o).grownBy w1 v.ownBlock) :
    Below B w0 w1 :=
  (hb.alloc hB o).grown hg (by simp; omega) (fun k e => (World.ownsRow.lt hown k e).1)

set_option maxRecDepth 100000 in
set_option maxHeartbeats 1000000 in
theorem flat32 (v : Value) (P : List (List (List Cl))) (w : World) (hP : C2 w v P) (hs : Small P) :
    Calls Try.prog 32 #[v] w fun e w' => ∃ u, e = .returned u ∧ OwnS w' w.heap.size u (gP fstep [] P P.length) ∧ Below w.heap.size w w' := by
  obtain ⟨i0, hi, hz0, hz1, hz2⟩ := info_parts Try.info9
  obtain ⟨a, cap, rfl, hl, hk⟩ := hP
  have HK : Hid (∀ i, i < P.length → ∃ b off u, a = some ⟨b, off, none⟩ ∧ w.cell? ⟨b, off + i, none⟩ = some u ∧ C1 w u (at2 P i)) := hk
  clear hk
  obtain ⟨n, hn⟩ : ∃ n, P.length = n := ⟨_, rfl⟩
  rw [hn] at HK hl ⊢
  have HN : Hid (P.length = n) := hn
  clear hn
  go_enter Try.func32, Try.ntmps32
  go_wp2
  go_loopw [3, 4] (fun o i wr => ∃ (k : Nat), k ≤ n ∧ i = .int .i64 k ∧ Hid (OwnS wr w.heap.size o (gP fstep [] P k)) ∧ Below w.heap.size w wr) (fun _ i _ => n - (intOf i).toNat)
  case atStart => exact ⟨0, Nat.zero_le _, rfl, World.ownsRow_nil _ _ _ _, Below.refl _ _⟩
  case round =>
    obtain ⟨i, hin, rfl, hown, hb⟩ := hrel
    by_cases hlt : i < n
    · obtain ⟨b, off, u, rfl, hc', a1, cap1, rfl, hl1, hk1⟩ := HK.out i hlt
      have hc := cell_later hb hc'
      obtain ⟨n1, hn1⟩ : ∃ n1, (at2 P i).length = n1 := ⟨_, rfl⟩
      rw [hn1] at hk1 hc hl1 hc'
      have HN1 : Hid ((at2 P i).length = n1) := hn1
      clear hn1
      have HK1 : Hid (∀ j, j < n1 → ∃ b off u, a1 = some ⟨b, off, none⟩ ∧ w.cell? ⟨b, off + j, none⟩ = some u ∧ C0 w u (at1 (at2 P i) j)) := hk1
      clear hk1
      go_wp2
      go_loopw [3, 5] (fun o j wr => ∃ (k : Nat), k ≤ n1 ∧ j = .int .i64 k ∧ Hid (OwnS wr w.heap.size o (gM fstep (gP fstep [] P i) (at2 P i) k)) ∧ Below w.heap.size w wr) (fun _ j _ => n1 - (intOf j).toNat)
      case atStart => exact ⟨0, Nat.zero_le _, rfl, by rw [gM_zero]; exact hown, hb⟩
      case round =>
        obtain ⟨j, hjn, rfl, hown1, hb1⟩ := hrel
        have hcA := cell_later hb1 hc'
        by_cases hlt1 : j < n1
        · obtain ⟨b1, off1, u1, rfl, hc1', a2, cap2, rfl, hl2, hk2⟩ := HK1.out j hlt1
          have hc1 := cell_later hb1 hc1'
          obtain ⟨n2, hn2⟩ : ∃ n2, (at1 (at2 P i) j).length = n2 := ⟨_, rfl⟩
          rw [hn2] at hk2 hc1 hl2 hc1'
          have HN2 : Hid ((at1 (at2 P i) j).length = n2) := hn2
          clear hn2
          have HK2 : Hid (∀ k, k < n2 → ∃ b off, a2 = some ⟨b, off, none⟩ ∧ w.cell? ⟨b, off + k * 2, none⟩ = some (.string (nm (at1 (at2 P i) j) k)) ∧ w.cell? ⟨b, off + k * 2 + 1, none⟩ = some (.bool (ns (at1 (at2 P i) j) k)) ∧ (nm (at1 (at2 P i) j) k).size ≤ 9223372036854775807) := hk2
          clear hk2
          go_wp2
          go_loopw [3, 6] (fun o k' wr => ∃ (k : Nat), k ≤ n2 ∧ k' = .int .i64 k ∧ Hid (OwnS wr w.heap.size o (gL fstep (gM fstep (gP fstep [] P i) (at2 P i) j) (at1 (at2 P i) j) k)) ∧ Below w.heap.size w wr) (fun _ j _ => n2 - (intOf j).toNat)
          case atStart => exact ⟨0, Nat.zero_le _, rfl, by rw [gL_zero]; exact hown1, hb1⟩
          case round =>
            obtain ⟨k, hkn, rfl, hown2, hb2⟩ := hrel
            have hcA2 := cell_later hb2 hc'
            have hcB2 := cell_later hb2 hc1'
            by_cases hlt2 : k < n2
            · obtain ⟨b2, off2, rfl, hc2', hc3', _⟩ := HK2.out k hlt2
              have hc2 := cell_later hb2 hc2'
              have hc3 := cell_later hb2 hc3'
              have hlen := in_len slow_f P hs i j k (by rw [HN.out]; exact hlt) (by rw [HN1.out]; exact hlt1) (by rw [HN2.out]; exact hlt2)
              have HG := gL_succ fstep (gM fstep (gP fstep [] P i) (at2 P i) j) (at1 (at2 P i) j) k (by rw [HN2.out]; exact hlt2)
              obtain ⟨xs, hxs⟩ : ∃ xs, gL fstep (gM fstep (gP fstep [] P i) (at2 P i) j) (at1 (at2 P i) j) k = xs := ⟨_, rfl⟩
              rw [hxs] at HG hlen hown2
              clear hxs
              by_cases e1 : ns (at1 (at2 P i) j) k = true
              · rw [fstep_no _ _ _ e1] at HG
                have HG' : Hid (gL fstep (gM fstep (gP fstep [] P i) (at2 P i) j) (at1 (at2 P i) j) (k + 1) = xs) := HG
                clear HG
                go_wp2
                go_roundw
                case rel => exact ⟨k + 1, by omega, by go_num, by rw [HG'.out]; exact hown2, hb2⟩
                case measure => simp [intOf]; omega
              · have e2 : ns (at1 (at2 P i) j) k = false := by simpa using e1
                rw [fstep_yes _ _ _ e2] at HG
                have HG' : Hid (gL fstep (gM fstep (gP fstep [] P i) (at2 P i) j) (at1 (at2 P i) j) (k + 1) = xs ++ [nm (at1 (at2 P i) j) k]) := HG
                clear HG e1
                go_wp2_with (at_builtin; refine wpList_append_own _ rfl _ _ 28 rfl w.heap.size 9 i0 (.string ByteArray.empty) 1 16 Try.underlying28 hi hz0 hz1 hz2 rfl (by decide) _ _ _ rfl (World.ownsRow.alloc hown2.out _) ⟨wr.heap.size, 0, none⟩ 1 1 [.string (nm (at1 (at2 P i) j) k)] rfl rfl ?c1 ?c2 ?c3 ?c4 ?c5 ?_)
                case c1 => exact cell_one_new _ _ _
                case c2 => intro u hu; simp at hu; subst hu; rfl
                case c3 => unfold maxLen; omega
                case c4 => omega
                case c5 => have := hb2.size; simp; omega
                intro v' w2 hown' hgrow _
                have R : Hid (OwnS w2 w.heap.size v' (xs ++ [nm (at1 (at2 P i) j) k])) := OwnS.snoc hown'
                have hB2 := own_step hb2 hb2.size hown2.out hgrow
                clear hown' hgrow hc2 hc3 hcA2 hcB2
                go_wp2
                go_roundw
                case rel => exact ⟨k + 1, by omega, by go_num, by rw [HG'.out]; exact R, hB2⟩
                case measure => simp [intOf]; omega
            · have hke : n2 = k := by omega
              subst hke
              go_wp2
              go_roundw
              case rel => exact ⟨j + 1, by omega, by go_num, by rw [gM_succ _ _ _ _ (by rw [HN1.out]; exact hlt1), HN2.out]; exact hown2, hb2⟩
              case measure => simp [intOf]; omega
        · have hje : n1 = j := by omega
          subst hje
          go_wp2
          go_roundw
          case rel => exact ⟨i + 1, by omega, by go_num, by rw [gP_succ _ _ _ _ (by rw [HN.out]; exact hlt), HN1.out]; exact hown1, hb1⟩
          case measure => simp [intOf]; omega
    · have hie : n = i := by omega
      subst hie
      go_wp2
      go_ret
      exact ⟨_, rfl, hown.out, hb⟩
end Go.Proofs.Qxb6617226a
