import Derived.Test.Qxb6617226aBuilt
namespace Go.Proofs.Qxb6617226a
open Go.RowKit

theorem set14 (w : World) (g o : Nat) (s : ByteArray) (b : Bool) : ((((((((((((((w.setCell ⟨g, o, none⟩ (.string s)).setCell ⟨g, o + 1, none⟩ (.string { data := #[] })).setCell ⟨g, o + 2, none⟩ (.slice none 0 0)).setCell ⟨g, o + 3, none⟩ (.bool b)).setCell ⟨g, o + 4, none⟩ (.bool false)).setCell ⟨g, o + 5, none⟩ (.slice none 0 0)).setCell ⟨g, o + 6, none⟩ (.bool false)).setCell ⟨g, o + 7, none⟩ (.bool false)).setCell ⟨g, o + 8, none⟩ (.bool false)).setCell ⟨g, o + 9, none⟩ (.bool false)).setCell ⟨g, o + 10, none⟩ (.slice none 0 0)).setCell ⟨g, o + 11, none⟩ (.slice none 0 0)).setCell ⟨g, o + 12, none⟩ (.bool false)).setCell ⟨g, o + 13, none⟩ (.slice none 0 0)) = w.setCells g o (clsv s b) := rfl

theorem size_drew (w : World) : w.drew.heap.size = w.heap.size := rfl

theorem mid_step {wA wB wC : World} {n1 j n2 : Nat} {fG : Nat → Value} {M : List (List Cl)} (hb1 : Below wA.heap.size wA wB) (hsz1 : wA.heap.size < wB.heap.size) (hb2 : Below wB.heap.size wB wC) (hsz2 : wB.heap.size < wC.heap.size)
    (hG1 : wC.rowIs wA.heap.size 69 n1 fG) (hG2 : ∀ j', j' < j → HB wB (fun b => wA.heap.size < b) (fG j') (at1 M j'))
    (hR : wC.rowIs wB.heap.size 68 ((at1 M j).length * 14) (cf (at1 M j))) (hl : (at1 M j).length = n2) :
    Below wA.heap.size wA ((wC.setCell ⟨wA.heap.size, j, none⟩ (.pointer (some ⟨wC.heap.size, 0, none⟩))).alloc (.cells #[.string { data := #[] }, .string { data := #[] }, .slice none 0 0, .slice (some ⟨wB.heap.size, 0, none⟩) n2 n2] 71)) ∧
    wA.heap.size < ((wC.setCell ⟨wA.heap.size, j, none⟩ (.pointer (some ⟨wC.heap.size, 0, none⟩))).alloc (.cells #[.string { data := #[] }, .string { data := #[] }, .slice none 0 0, .slice (some ⟨wB.heap.size, 0, none⟩) n2 n2] 71)).heap.size ∧
    Hid (∃ f : Nat → Value, ((wC.setCell ⟨wA.heap.size, j, none⟩ (.pointer (some ⟨wC.heap.size, 0, none⟩))).alloc (.cells #[.string { data := #[] }, .string { data := #[] }, .slice none 0 0, .slice (some ⟨wB.heap.size, 0, none⟩) n2 n2] 71)).rowIs wA.heap.size 69 n1 f ∧
      ∀ j', j' < j + 1 → HB ((wC.setCell ⟨wA.heap.size, j, none⟩ (.pointer (some ⟨wC.heap.size, 0, none⟩))).alloc (.cells #[.string { data := #[] }, .string { data := #[] }, .slice none 0 0, .slice (some ⟨wB.heap.size, 0, none⟩) n2 n2] 71)) (fun b => wA.heap.size < b) (f j') (at1 M j')) := by
  subst hl
  have hs1 : (wC.setCell ⟨wA.heap.size, j, none⟩ (.pointer (some ⟨wC.heap.size, 0, none⟩))).heap.size = wC.heap.size := by simp [World.setCell]
  generalize hX : wC.setCell ⟨wA.heap.size, j, none⟩ (.pointer (some ⟨wC.heap.size, 0, none⟩)) = X at *
  have hXB : Below wA.heap.size wA X := by
    rw [← hX]
    exact (hb1.trans (hb2.mono (by omega))).setCell (p := ⟨wA.heap.size, j, none⟩) (Nat.le_refl _) _
  have hXo : ∀ b, b ≠ wA.heap.size → X.heap[b]? = wC.heap[b]? := by
    intro b hb
    rw [← hX]
    exact Below.heap_setCell _ _ _ _ hb
  refine ⟨hXB.alloc (by rw [hs1]; omega) _, by rw [World.size_alloc, hs1]; omega, fun j'' => if j'' = j then .pointer (some ⟨wC.heap.size, 0, none⟩) else fG j'', ?_, ?_⟩
  · rw [← hX]
    exact (hG1.set j _).alloc _
  · intro j' hj'
    by_cases e : j' = j
    · subst e
      refine ⟨wC.heap.size, wB.heap.size, if_pos rfl, ?_, hsz1, ?_, ?_⟩
      · show wA.heap.size < wC.heap.size
        omega
      · rw [World.cell?_alloc_at _ _ _ _ hs1.symm]; rfl
      · exact (hR.of_block (hXo _ (by omega))).alloc _
    · have h := hG2 j' (by omega)
      show HB _ _ (if j' = j then _ else fG j') _
      rw [if_neg e]
      refine h.keep (fun b hb hlt => ?_) (fun _ h => h)
      rw [Below.heap_alloc _ _ _ (by omega), hXo b (by have : wA.heap.size < b := hb; omega), hb2.block b hlt]

theorem out_step {w wA wB : World} {n i n1 : Nat} {fF fG : Nat → Value} {P : List (List (List Cl))} (hsz : w.heap.size < wA.heap.size) (hb : Below w.heap.size w wA) (hb1 : Below wA.heap.size wA wB) (hsz1 : wA.heap.size < wB.heap.size)
    (hF1 : wA.rowIs w.heap.size 61 n fF) (hF2 : ∀ i', i' < i → MB wA (fun b => w.heap.size < b) (fF i') (at2 P i'))
    (hG1 : wB.rowIs wA.heap.size 69 n1 fG) (hG2 : ∀ j', j' < n1 → HB wB (fun b => wA.heap.size < b) (fG j') (at1 (at2 P i) j')) (hl : (at2 P i).length = n1) :
    Below w.heap.size w (wB.setCell ⟨w.heap.size, i, none⟩ (.slice (some ⟨wA.heap.size, 0, none⟩) n1 n1)) ∧
    w.heap.size < (wB.setCell ⟨w.heap.size, i, none⟩ (.slice (some ⟨wA.heap.size, 0, none⟩) n1 n1)).heap.size ∧
    Hid (∃ f : Nat → Value, (wB.setCell ⟨w.heap.size, i, none⟩ (.slice (some ⟨wA.heap.size, 0, none⟩) n1 n1)).rowIs w.heap.size 61 n f ∧
      ∀ i', i' < i + 1 → MB (wB.setCell ⟨w.heap.size, i, none⟩ (.slice (some ⟨wA.heap.size, 0, none⟩) n1 n1)) (fun b => w.heap.size < b) (f i') (at2 P i')) := by
  subst hl
  have hB2 : Below w.heap.size w wB := hb.trans (hb1.mono (by omega))
  have hXo : ∀ b, b ≠ w.heap.size → (wB.setCell ⟨w.heap.size, i, none⟩ (.slice (some ⟨wA.heap.size, 0, none⟩) (at2 P i).length (at2 P i).length)).heap[b]? = wB.heap[b]? := by
    intro b hb
    exact Below.heap_setCell _ _ _ _ hb
  refine ⟨hB2.setCell (p := ⟨w.heap.size, i, none⟩) (Nat.le_refl _) _, by simp [World.setCell]; omega, fun i'' => if i'' = i then .slice (some ⟨wA.heap.size, 0, none⟩) (at2 P i).length (at2 P i).length else fF i'', ?_, ?_⟩
  · exact (hF1.of_block (hb1.block _ hsz)).set i _
  · intro i' hi'
    show MB _ _ (if i' = i then _ else fF i') _
    by_cases e : i' = i
    · subst e
      rw [if_pos rfl]
      refine ⟨wA.heap.size, rfl, hsz, fG, hG1.of_block (hXo _ (by omega)), fun j hj => (hG2 j hj).keep (fun b hb _ => hXo b (by have : wA.heap.size < b := hb; omega)) (fun b hb => by have : wA.heap.size < b := hb; show w.heap.size < b; omega)⟩
    · rw [if_neg e]
      refine (hF2 i' (by omega)).keep (fun b hb hlt => ?_) (fun _ h => h)
      rw [hXo b (by have : w.heap.size < b := hb; omega), hb1.block b hlt]

set_option maxRecDepth 100000 in
set_option maxHeartbeats 2000000 in
theorem build31 (v : Value) (P : List (List (List Cl))) (w : World) (hP : C2 w v P) (hs : Small P) :
    Calls Try.prog 31 #[v] w fun e w' => ∃ u, e = .returned u ∧ PB w' u P ∧ Below w.heap.size w w' := by
  obtain ⟨a, cap, rfl, hl, hk⟩ := hP
  have HK : Hid (∀ i, i < P.length → ∃ b off u, a = some ⟨b, off, none⟩ ∧ w.cell? ⟨b, off + i, none⟩ = some u ∧ C1 w u (at2 P i)) := hk
  clear hk
  have hsn := hs.n
  have HSm : Hid (∀ i, i < P.length → (at2 P i).length ≤ 1048576) := hs.m
  have HSs : Hid (Small P) := hs
  clear hs
  obtain ⟨n, hn⟩ : ∃ n, P.length = n := ⟨_, rfl⟩
  rw [hn] at HK hl hsn HSm
  have HN : Hid (P.length = n) := hn
  clear hn
  have hmk := run_make_row' (P := Try.prog) 49 61 (.slice none 0 0) 24 Try.underlying49 Try.info61 rfl .i64 .i64 n (by omega) (by omega)
  have hr0 := World.rowIs_made w (.slice none 0 0) n 61
  have HR0 : Hid ((w.alloc (.cells (madeCells #[Value.slice none 0 0] n) 61)).rowIs w.heap.size 61 n (fun _ => .slice none 0 0)) := hr0
  clear hr0
  rw [HN.out]
  go_enter Try.func31, Try.ntmps31
  go_wp2
  go_loopw [4] (fun i wr => ∃ (k : Nat), k ≤ n ∧ i = .int .i64 k ∧ Below w.heap.size w wr ∧ w.heap.size < wr.heap.size ∧ Hid (∃ f : Nat → Value, wr.rowIs w.heap.size 61 n f ∧ ∀ i', i' < k → MB wr (fun b => w.heap.size < b) (f i') (at2 P i'))) (fun i _ => n - (intOf i).toNat)
  case atStart => exact ⟨0, Nat.zero_le _, rfl, (Below.refl _ _).alloc (Nat.le_refl _) _, by simp, ⟨_, HR0.out, fun i' h => absurd h (by omega)⟩⟩
  case round =>
    obtain ⟨i, hin, rfl, hb, hsz, hF⟩ := hrel
    rename World => wA
    by_cases hlt : i < n
    · obtain ⟨b, off, u, rfl, hc', a1, cap1, rfl, hl1, hk1⟩ := HK.out i hlt
      have hc := cell_later hb hc'
      have hn1b := HSm.out i hlt
      obtain ⟨n1, hn1⟩ : ∃ n1, (at2 P i).length = n1 := ⟨_, rfl⟩
      rw [hn1] at hk1 hc hl1 hc' hn1b
      have HN1 : Hid ((at2 P i).length = n1) := hn1
      clear hn1
      have HK1 : Hid (∀ j, j < n1 → ∃ b off u, a1 = some ⟨b, off, none⟩ ∧ w.cell? ⟨b, off + j, none⟩ = some u ∧ C0 w u (at1 (at2 P i) j)) := hk1
      clear hk1
      have hmk1 := run_make_row' (P := Try.prog) 61 69 (.pointer none) 8 Try.underlying61 Try.info69 rfl .i64 .i64 n1 (by omega) (by omega)
      have HR1 : Hid ((wA.alloc (.cells (madeCells #[Value.pointer none] n1) 69)).rowIs wA.heap.size 69 n1 (fun _ => .pointer none)) := World.rowIs_made wA (.pointer none) n1 69
      go_wp2
      go_loopw [6] (fun j w2 => ∃ (k : Nat), k ≤ n1 ∧ j = .int .i64 k ∧ Below wA.heap.size wA w2 ∧ wA.heap.size < w2.heap.size ∧ Hid (∃ f : Nat → Value, w2.rowIs wA.heap.size 69 n1 f ∧ ∀ j', j' < k → HB w2 (fun b => wA.heap.size < b) (f j') (at1 (at2 P i) j'))) (fun j _ => n1 - (intOf j).toNat)
      case atStart => exact ⟨0, Nat.zero_le _, rfl, (Below.refl _ _).alloc (Nat.le_refl _) _, by simp, ⟨_, HR1.out, fun i' h => absurd h (by omega)⟩⟩
      case round =>
        obtain ⟨j, hjn, rfl, hb1, hsz1, hG⟩ := hrel
        rename World => wB
        have hbw : Below w.heap.size w wB := hb.trans (hb1.mono (by omega))
        have hcA := cell_later hbw hc'
        by_cases hlt1 : j < n1
        · obtain ⟨b1, off1, u1, rfl, hc1', a2, cap2, rfl, hl2, hk2⟩ := HK1.out j hlt1
          have hc1 := cell_later hbw hc1'
          have hn2b : (at1 (at2 P i) j).length ≤ 1048576 := inner_small P HSs.out i j (by rw [HN.out]; exact hlt) (by rw [HN1.out]; exact hlt1)
          obtain ⟨n2, hn2⟩ : ∃ n2, (at1 (at2 P i) j).length = n2 := ⟨_, rfl⟩
          rw [hn2] at hk2 hc1 hl2 hc1' hn2b
          have HN2 : Hid ((at1 (at2 P i) j).length = n2) := hn2
          clear hn2
          have HK2 : Hid (∀ k, k < n2 → ∃ b off, a2 = some ⟨b, off, none⟩ ∧ w.cell? ⟨b, off + k * 2, none⟩ = some (.string (nm (at1 (at2 P i) j) k)) ∧ w.cell? ⟨b, off + k * 2 + 1, none⟩ = some (.bool (ns (at1 (at2 P i) j) k)) ∧ (nm (at1 (at2 P i) j) k).size ≤ 9223372036854775807) := hk2
          clear hk2
          have hmk2 := run_make62 n2 hn2b
          have HR2 : Hid ((wB.alloc (.cells (madeCells (clsv ByteArray.empty false).toArray (n2 * 14)) 68)).rowIs wB.heap.size 68 (n2 * 14) (part (at1 (at2 P i) j) 0)) := by
            rw [← part_zero]; exact made68 wB n2
          go_wp2
          go_loopw [8] (fun k' w3 => ∃ (k : Nat), k ≤ n2 ∧ k' = .int .i64 k ∧ Below wB.heap.size wB w3 ∧ wB.heap.size < w3.heap.size ∧ Hid (w3.rowIs wB.heap.size 68 (n2 * 14) (part (at1 (at2 P i) j) k))) (fun j _ => n2 - (intOf j).toNat)
          case atStart => exact ⟨0, Nat.zero_le _, rfl, (Below.refl _ _).alloc (Nat.le_refl _) _, by simp, HR2⟩
          case round =>
            obtain ⟨k, hkn, rfl, hb2, hsz2, hR⟩ := hrel
            rename World => wC
            have hbv : Below w.heap.size w wC := hbw.trans (hb2.mono (by have := hbw.size; omega))
            have hcA2 := cell_later hbv hc'
            have hcB2 := cell_later hbv hc1'
            by_cases hlt2 : k < n2
            · obtain ⟨b2, off2, rfl, hc2', hc3', _⟩ := HK2.out k hlt2
              have hc2 := cell_later hbv hc2'
              have hc3 := cell_later hbv hc3'
              have fa0 : wC.cell? ⟨wB.heap.size, k * 14, none⟩ = some (part (at1 (at2 P i) j) k (k * 14)) := hR.out.cell (by omega)
              have fz0 : wC.frozen? ⟨wB.heap.size, k * 14, none⟩ = false := hR.out.frozen _
              have fa1 : wC.cell? ⟨wB.heap.size, k * 14 + 1, none⟩ = some (part (at1 (at2 P i) j) k (k * 14 + 1)) := hR.out.cell (by omega)
              have fz1 : wC.frozen? ⟨wB.heap.size, k * 14 + 1, none⟩ = false := hR.out.frozen _
              have fa2 : wC.cell? ⟨wB.heap.size, k * 14 + 2, none⟩ = some (part (at1 (at2 P i) j) k (k * 14 + 2)) := hR.out.cell (by omega)
              have fz2 : wC.frozen? ⟨wB.heap.size, k * 14 + 2, none⟩ = false := hR.out.frozen _
              have fa3 : wC.cell? ⟨wB.heap.size, k * 14 + 3, none⟩ = some (part (at1 (at2 P i) j) k (k * 14 + 3)) := hR.out.cell (by omega)
              have fz3 : wC.frozen? ⟨wB.heap.size, k * 14 + 3, none⟩ = false := hR.out.frozen _
              have fa4 : wC.cell? ⟨wB.heap.size, k * 14 + 4, none⟩ = some (part (at1 (at2 P i) j) k (k * 14 + 4)) := hR.out.cell (by omega)
              have fz4 : wC.frozen? ⟨wB.heap.size, k * 14 + 4, none⟩ = false := hR.out.frozen _
              have fa5 : wC.cell? ⟨wB.heap.size, k * 14 + 5, none⟩ = some (part (at1 (at2 P i) j) k (k * 14 + 5)) := hR.out.cell (by omega)
              have fz5 : wC.frozen? ⟨wB.heap.size, k * 14 + 5, none⟩ = false := hR.out.frozen _
              have fa6 : wC.cell? ⟨wB.heap.size, k * 14 + 6, none⟩ = some (part (at1 (at2 P i) j) k (k * 14 + 6)) := hR.out.cell (by omega)
              have fz6 : wC.frozen? ⟨wB.heap.size, k * 14 + 6, none⟩ = false := hR.out.frozen _
              have fa7 : wC.cell? ⟨wB.heap.size, k * 14 + 7, none⟩ = some (part (at1 (at2 P i) j) k (k * 14 + 7)) := hR.out.cell (by omega)
              have fz7 : wC.frozen? ⟨wB.heap.size, k * 14 + 7, none⟩ = false := hR.out.frozen _
              have fa8 : wC.cell? ⟨wB.heap.size, k * 14 + 8, none⟩ = some (part (at1 (at2 P i) j) k (k * 14 + 8)) := hR.out.cell (by omega)
              have fz8 : wC.frozen? ⟨wB.heap.size, k * 14 + 8, none⟩ = false := hR.out.frozen _
              have fa9 : wC.cell? ⟨wB.heap.size, k * 14 + 9, none⟩ = some (part (at1 (at2 P i) j) k (k * 14 + 9)) := hR.out.cell (by omega)
              have fz9 : wC.frozen? ⟨wB.heap.size, k * 14 + 9, none⟩ = false := hR.out.frozen _
              have fa10 : wC.cell? ⟨wB.heap.size, k * 14 + 10, none⟩ = some (part (at1 (at2 P i) j) k (k * 14 + 10)) := hR.out.cell (by omega)
              have fz10 : wC.frozen? ⟨wB.heap.size, k * 14 + 10, none⟩ = false := hR.out.frozen _
              have fa11 : wC.cell? ⟨wB.heap.size, k * 14 + 11, none⟩ = some (part (at1 (at2 P i) j) k (k * 14 + 11)) := hR.out.cell (by omega)
              have fz11 : wC.frozen? ⟨wB.heap.size, k * 14 + 11, none⟩ = false := hR.out.frozen _
              have fa12 : wC.cell? ⟨wB.heap.size, k * 14 + 12, none⟩ = some (part (at1 (at2 P i) j) k (k * 14 + 12)) := hR.out.cell (by omega)
              have fz12 : wC.frozen? ⟨wB.heap.size, k * 14 + 12, none⟩ = false := hR.out.frozen _
              have fa13 : wC.cell? ⟨wB.heap.size, k * 14 + 13, none⟩ = some (part (at1 (at2 P i) j) k (k * 14 + 13)) := hR.out.cell (by omega)
              have fz13 : wC.frozen? ⟨wB.heap.size, k * 14 + 13, none⟩ = false := hR.out.frozen _
              have e1 : (i : Int) < n := by omega
              have e2 : (j : Int) < n1 := by omega
              have e3 : (k : Int) < n2 := by omega
              generalize hs0 : nm (at1 (at2 P i) j) k = s0 at *
              generalize hb0 : ns (at1 (at2 P i) j) k = b0 at *
              have HS0 : Hid (nm (at1 (at2 P i) j) k = s0) := hs0
              have HB0 : Hid (ns (at1 (at2 P i) j) k = b0) := hb0
              clear hs0 hb0
              have R : Hid ((wC.setCells wB.heap.size (k * 14) (clsv s0 b0)).drew.rowIs wB.heap.size 68 (n2 * 14) (part (at1 (at2 P i) j) (k + 1))) := by
                rw [← HS0.out, ← HB0.out]
                exact (part_set hR.out).drew
              have hb3 : Hid (Below wB.heap.size wB (wC.setCells wB.heap.size (k * 14) (clsv s0 b0)).drew) := (below_setCells (Nat.le_refl _) _ _ _ hb2).drew
              have hsz3 : Hid (wB.heap.size < (wC.setCells wB.heap.size (k * 14) (clsv s0 b0)).drew.heap.size) := by
                show _ < _
                rw [size_drew, size_setCells]; exact hsz2
              go_wp2
              go_region
              go_wp2
              go_roundw
              case rel => rw [set14]; exact ⟨k + 1, by omega, by go_num, hb3.out, hsz3.out, R⟩
              case measure => simp [intOf]; omega
            · have hke : n2 = k := by omega
              subst hke
              have R : Hid (wC.rowIs wB.heap.size 68 ((at1 (at2 P i) j).length * 14) (cf (at1 (at2 P i) j))) := by
                refine part_all ?_
                rw [HN2.out]; exact hR.out
              obtain ⟨fG, hG1, hG2⟩ := hG.out
              have hbc : wC.heap[wA.heap.size]? = wB.heap[wA.heap.size]? := hb2.block _ hsz1
              have hG1c : wC.rowIs wA.heap.size 69 n1 fG := hG1.of_block hbc
              have g1 : wC.cell? ⟨wA.heap.size, j, none⟩ = some (fG j) := hG1c.cell hlt1
              have g2 : wC.frozen? ⟨wA.heap.size, j, none⟩ = false := hG1c.frozen _
              have HG1 : Hid (wC.rowIs wA.heap.size 69 n1 fG) := hG1c
              have HG2 : Hid (∀ j', j' < j → HB wB (fun b => wA.heap.size < b) (fG j') (at1 (at2 P i) j')) := hG2
              clear hG1 hG2 hG1c hbc hG
              have e2 : (j : Int) < n1 := by omega
              have hzz : wA.heap.size < wC.heap.size := by have := hb2.size; omega
              have RM := mid_step hb1 hsz1 hb2 hsz2 HG1.out HG2.out R.out HN2.out
              have RM' : Hid _ := RM
              clear RM
              go_wp2
              go_roundw
              case rel => exact ⟨j + 1, by omega, by go_num, RM'.out.1, RM'.out.2.1, RM'.out.2.2⟩
              case measure => simp [intOf]; omega
        · have hje : n1 = j := by omega
          subst hje
          obtain ⟨fF, hF1, hF2⟩ := hF.out
          obtain ⟨fG, hG1, hG2⟩ := hG.out
          have hF1b : wB.rowIs w.heap.size 61 n fF := hF1.of_block (hb1.block _ hsz)
          have g1 : wB.cell? ⟨w.heap.size, i, none⟩ = some (fF i) := hF1b.cell hlt
          have g2 : wB.frozen? ⟨w.heap.size, i, none⟩ = false := hF1b.frozen _
          have RM : Hid _ := out_step hsz hb hb1 hsz1 hF1 hF2 hG1 hG2 HN1.out
          clear hF1 hF2 hG1 hG2 hF1b hF hG
          have e1 : (i : Int) < n := by omega
          go_wp2
          go_roundw
          case rel => exact ⟨i + 1, by omega, by go_num, RM.out.1, RM.out.2.1, RM.out.2.2⟩
          case measure => simp [intOf]; omega
    · have hie : n = i := by omega
      subst hie
      have RF : Hid (PB wA (.slice (some ⟨w.heap.size, 0, none⟩) n n) P) := by
        obtain ⟨fF, hF1, hF2⟩ := hF.out
        refine ⟨w.heap.size, 0, n, by rw [HN.out], by rw [HN.out]; exact hl, by rw [HN.out]; exact Nat.le_refl _, fun i' h => ?_⟩
        rw [HN.out] at h
        exact ⟨fF i', by rw [Nat.zero_add]; exact hF1.cell h, (hF2 i' h).keep (fun _ _ _ => rfl) (fun _ _ => trivial)⟩
      go_wp2
      go_ret
      exact ⟨_, rfl, RF.out, hb⟩
end Go.Proofs.Qxb6617226a
