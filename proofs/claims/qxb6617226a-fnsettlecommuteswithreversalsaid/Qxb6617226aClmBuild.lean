import Derived.Test.Qxb6617226aClmBuilt
import Derived.Deep.RegionHeld3
namespace Go.Proofs.Qxb6617226a
open Go.RowKit

theorem set5 (w : World) (g o : Nat) (nm ow : ByteArray) (b : Bool) (r : Int) (v : Value) (rv : List ByteArray) : (((((w.setCell ⟨g, o, none⟩ (.string nm)).setCell ⟨g, o + 1, none⟩ (.string ow)).setCell ⟨g, o + 2, none⟩ (.bool b)).setCell ⟨g, o + 3, none⟩ (.int .i64 r)).setCell ⟨g, o + 4, none⟩ (v)) = w.setCells g o (c5 ⟨nm, ow, b, r, rv⟩ v) := rfl

theorem setCells_other {g b : Nat} (h : b ≠ g) : ∀ (vs : List Value) (o : Nat) (w : World), (w.setCells g o vs).heap[b]? = w.heap[b]?
  | [], _, _ => rfl
  | v :: r, o, w => by rw [World.setCells, setCells_other h r (o + 1)]; exact Below.heap_setCell _ _ _ _ h

theorem OwnS.move {w w' : World} {B B' : Nat} {v : Value} {xs : List ByteArray} (h : OwnS w B v xs) (hB : B' ≤ B) (hb : ∀ b, B ≤ b → b < w.heap.size → w'.heap[b]? = w.heap[b]?) : OwnS w' B' v xs := by
  obtain ⟨h1, h2⟩ := h
  refine ⟨h1, ?_⟩
  rcases h2 with h2 | ⟨g, cap, cur, hv, hg, hh, r⟩
  · exact Or.inl h2
  · exact Or.inr ⟨g, cap, cur, hv, by omega, (hb g hg (Array.getElem?_eq_some_iff.1 hh).1).trans hh, r⟩

theorem claim_step {w wA w1 : World} {n i : Nat} {cs : List Cm} {F : Nat → Value} {v : Value} (o : Obj) (hb : Below w.heap.size w wA) (hsz : w.heap.size < wA.heap.size) (hb1 : Below wA.heap.size wA w1)
    (hrow : wA.rowIs w.heap.size 39 (n * 5) (ccell cs F i)) (hriv : Riv wA (w.heap.size + 1) cs F i) (hown : OwnS w1 wA.heap.size v (cat cs i).rivals) :
    Below w.heap.size w ((w1.setCells w.heap.size (i * 5) (c5 (cat cs i) v)).alloc o) ∧ w.heap.size < ((w1.setCells w.heap.size (i * 5) (c5 (cat cs i) v)).alloc o).heap.size ∧
    Hid (∃ F' : Nat → Value, ((w1.setCells w.heap.size (i * 5) (c5 (cat cs i) v)).alloc o).rowIs w.heap.size 39 (n * 5) (ccell cs F' (i + 1)) ∧ Riv ((w1.setCells w.heap.size (i * 5) (c5 (cat cs i) v)).alloc o) (w.heap.size + 1) cs F' (i + 1)) := by
  have hs1 : (w1.setCells w.heap.size (i * 5) (c5 (cat cs i) v)).heap.size = w1.heap.size := size_setCells _ _ _
  have hl1 := hb1.size
  have oth : ∀ b, b ≠ w.heap.size → b < w1.heap.size → ((w1.setCells w.heap.size (i * 5) (c5 (cat cs i) v)).alloc o).heap[b]? = w1.heap[b]? := by
    intro b hne hlt
    rw [Below.heap_alloc _ _ _ (by omega), setCells_other hne]
  refine ⟨(below_setCells (Nat.le_refl _) _ _ _ (hb.trans (hb1.mono (by omega)))).alloc (by omega) _, by rw [World.size_alloc]; omega, upd F i v, (ccell_set (hrow.of_block (hb1.block _ hsz))).alloc _, fun i' hi' => ?_, fun i' j' hi' hj' hne => ?_⟩
  · unfold upd
    by_cases e : i' = i
    · subst e
      rw [if_pos rfl]
      exact hown.move (by omega) (fun b hb hlt => oth b (by omega) hlt)
    · rw [if_neg e]
      refine (hriv.1 i' (by omega)).move (Nat.le_refl _) (fun b hb hlt => ?_)
      rw [oth b (by omega) (by omega), hb1.block b hlt]
  · have low : ∀ q, q < i → ∀ x, (F q).ownBlock = some x → x < wA.heap.size := fun q hq x hx => (World.ownsRow.lt (hriv.1 q hq) x hx).2
    have high : ∀ x, v.ownBlock = some x → wA.heap.size ≤ x := fun x hx => (World.ownsRow.lt hown x hx).1
    unfold upd
    by_cases e : i' = i
    · subst e
      rw [if_pos rfl, if_neg (fun h => hne h.symm)]
      cases hv : v.ownBlock with
      | none => exact Or.inl rfl
      | some x =>
        right
        intro h
        have h1 := high x hv
        have h2 := low j' (by omega) x h.symm
        omega
    · rw [if_neg e]
      by_cases e2 : j' = i
      · subst e2
        rw [if_pos rfl]
        cases hv : (F i').ownBlock with
        | none => exact Or.inl rfl
        | some x =>
          right
          intro h
          have h1 := low i' (by omega) x hv
          have h2 := high x h.symm
          omega
      · rw [if_neg e2]
        exact hriv.2 i' j' (by omega) (by omega) hne

set_option maxRecDepth 100000 in
set_option maxHeartbeats 4000000 in
theorem build10g (v : Value) (cs : List Cm) (w : World) (hP : K w v cs) (hs : SmallC cs) :
    Calls Try.prog 10 #[v] w fun e w' => ∃ F, e = .returned (.slice (some ⟨w.heap.size, 0, none⟩) cs.length cs.length) ∧ BK w' (.slice (some ⟨w.heap.size, 0, none⟩) cs.length cs.length) cs F ∧ Below w.heap.size w w' := by
  obtain ⟨a, cap, rfl, hl, hk⟩ := hP
  have hsn := hs.n
  obtain ⟨n, hn⟩ : ∃ n, cs.length = n := ⟨_, rfl⟩
  rw [hn] at hl hk hsn ⊢
  have HN : Hid (cs.length = n) := hn
  clear hn
  have HK : Hid (∀ i, i < n → ∃ b off ra rc, a = some ⟨b, off, none⟩ ∧ Five w b (off + i * 5) (cat cs i) ra rc) := hk
  have HSr : Hid (∀ i, i < n → (cat cs i).rivals.length ≤ 1048576) := by rw [← HN.out]; exact hs.r
  clear hk hs
  have hmk := run_make24 n (by omega)
  have HR0 : Hid ((w.alloc (.cells (madeCells z5.toArray (n * 5)) 39)).rowIs w.heap.size 39 (n * 5) (ccell cs (fun _ => undef) 0)) := made39 w n cs _
  go_enter Try.func10, Try.ntmps10
  go_wp2
  go_loopw [4] (fun i wr => ∃ (k : Nat), k ≤ n ∧ i = .int .i64 k ∧ Below w.heap.size w wr ∧ w.heap.size < wr.heap.size ∧ Hid (∃ F : Nat → Value, wr.rowIs w.heap.size 39 (n * 5) (ccell cs F k) ∧ Riv wr (w.heap.size + 1) cs F k)) (fun i _ => n - (intOf i).toNat)
  case atStart => exact ⟨0, Nat.zero_le _, rfl, (Below.refl _ _).alloc (Nat.le_refl _) _, by simp, ⟨_, HR0.out, fun i h => absurd h (Nat.not_lt_zero _), fun i j h => absurd h (Nat.not_lt_zero _)⟩⟩
  case round =>
    obtain ⟨i, hin, rfl, hb, hsz, hF⟩ := hrel
    rename World => wA
    by_cases hlt : i < n
    · obtain ⟨b, off, ra, rc, rfl, h5⟩ := HK.out i hlt
      obtain ⟨F, hrow, hriv⟩ := hF.out
      have h5A := h5.below hb
      obtain ⟨c, hci⟩ : ∃ c, cat cs i = c := ⟨_, rfl⟩
      have HC : Hid (cat cs i = c) := hci
      have hrl := HSr.out i hlt
      rw [hci] at h5 h5A hrl
      clear hci
      have f0 := h5A.c0
      have f1 := h5A.c1
      have f2 := h5A.c2
      have f3 := h5A.c3
      have f4 := h5A.c4
      have hbw : b < wA.heap.size := World.block_lt_of_cell? _ _ f0
      have hbB : b < w.heap.size := World.block_lt_of_cell? _ _ h5.c0
      obtain ⟨n1, hn1⟩ : ∃ z, c.rivals.length = z := ⟨_, rfl⟩
      rw [hn1] at f4 hrl
      have HN1 : Hid (c.rivals.length = n1) := hn1
      have H5 : Hid (Five wA b (off + i * 5) c ra rc) := h5A
      have HR : Hid (SRow wA.drew ra c.rivals) := h5A.row
      have HZ : Hid (ra = none → rc = 0) := h5A.nil
      clear h5 h5A hn1
      have e1 : (i : Int) < n := by omega
      obtain ⟨nmz, hnmz⟩ : ∃ z, c.name = z := ⟨_, rfl⟩
      obtain ⟨owz, howz⟩ : ∃ z, c.owner = z := ⟨_, rfl⟩
      obtain ⟨bz, hbz⟩ : ∃ z, c.cst = z := ⟨_, rfl⟩
      obtain ⟨rz, hrz⟩ : ∃ z, c.rank = z := ⟨_, rfl⟩
      rw [hnmz] at f0
      rw [howz] at f1
      rw [hbz] at f2
      rw [hrz] at f3
      have HE : Hid (c.name = nmz ∧ c.owner = owz ∧ c.cst = bz ∧ c.rank = rz) := ⟨hnmz, howz, hbz, hrz⟩
      clear hnmz howz hbz hrz
      have HRow : Hid (wA.rowIs w.heap.size 39 (n * 5) (ccell cs F i)) := hrow
      have HRiv : Hid (Riv wA (w.heap.size + 1) cs F i) := hriv
      clear hrow hriv hF
      have hne : b ≠ w.heap.size := by omega
      have hne2 : w.heap.size ≠ b := by omega
      go_wp2
      go_region_held3 (fun w' => w'.cell? ⟨b, off + i * 5, none⟩ = some (.string nmz) ∧ w'.cell? ⟨b, off + i * 5 + 1, none⟩ = some (.string owz) ∧ w'.cell? ⟨b, off + i * 5 + 2, none⟩ = some (.bool bz) ∧ w'.cell? ⟨b, off + i * 5 + 3, none⟩ = some (.int .i64 rz) ∧ w'.cell? ⟨b, off + i * 5 + 4, none⟩ = some (.slice ra n1 rc)) (first | go_keep | skip)
        (first | (go_at_call 23; refine (clone_any ra n1 rc c.rivals _ HN1 hrl HZ.out (by exact HR)).mono ?_; rintro e w1 ⟨a', c', rfl, hown, hb1⟩; have d0 : w1.cell? ⟨w.heap.size, i * 5, none⟩ = some (ccell cs F i (i * 5)) := cell_later (w := wA.drew) hb1 (HRow.out.cell (by omega)); have z0 : w1.frozen? ⟨w.heap.size, i * 5, none⟩ = false := (hb1.frozen (p := ⟨w.heap.size, i * 5, none⟩) hsz).trans (HRow.out.frozen _); have k0 := cell_later (w := wA.drew) hb1 f0; have d1 : w1.cell? ⟨w.heap.size, i * 5 + 1, none⟩ = some (ccell cs F i (i * 5 + 1)) := cell_later (w := wA.drew) hb1 (HRow.out.cell (by omega)); have z1 : w1.frozen? ⟨w.heap.size, i * 5 + 1, none⟩ = false := (hb1.frozen (p := ⟨w.heap.size, i * 5 + 1, none⟩) hsz).trans (HRow.out.frozen _); have k1 := cell_later (w := wA.drew) hb1 f1; have d2 : w1.cell? ⟨w.heap.size, i * 5 + 2, none⟩ = some (ccell cs F i (i * 5 + 2)) := cell_later (w := wA.drew) hb1 (HRow.out.cell (by omega)); have z2 : w1.frozen? ⟨w.heap.size, i * 5 + 2, none⟩ = false := (hb1.frozen (p := ⟨w.heap.size, i * 5 + 2, none⟩) hsz).trans (HRow.out.frozen _); have k2 := cell_later (w := wA.drew) hb1 f2; have d3 : w1.cell? ⟨w.heap.size, i * 5 + 3, none⟩ = some (ccell cs F i (i * 5 + 3)) := cell_later (w := wA.drew) hb1 (HRow.out.cell (by omega)); have z3 : w1.frozen? ⟨w.heap.size, i * 5 + 3, none⟩ = false := (hb1.frozen (p := ⟨w.heap.size, i * 5 + 3, none⟩) hsz).trans (HRow.out.frozen _); have k3 := cell_later (w := wA.drew) hb1 f3; have d4 : w1.cell? ⟨w.heap.size, i * 5 + 4, none⟩ = some (ccell cs F i (i * 5 + 4)) := cell_later (w := wA.drew) hb1 (HRow.out.cell (by omega)); have z4 : w1.frozen? ⟨w.heap.size, i * 5 + 4, none⟩ = false := (hb1.frozen (p := ⟨w.heap.size, i * 5 + 4, none⟩) hsz).trans (HRow.out.frozen _); have k4 := cell_later (w := wA.drew) hb1 f4; have q0 := World.new_ne w1 _ k0; have q1 : w.heap.size < w1.heap.size := Nat.lt_of_lt_of_le hsz hb1.size) | (go_at_call 36; refine (make36 _ _ _ _ _ _ _ _).mono ?_; rintro e w2 ⟨rfl, rfl⟩))
      go_wp2
      go_roundw
      case rel =>
        have hcc : cat cs i = ⟨nmz, owz, bz, rz, c.rivals⟩ := by
          rw [HC.out]
          obtain ⟨h1, h2, h3, h4⟩ := HE.out
          cases c
          simp only at h1 h2 h3 h4
          rw [h1, h2, h3, h4]
        have hb1' : Below wA.heap.size wA w1 := ⟨hb1.os, hb1.tape, hb1.output, hb1.size, hb1.block⟩
        have hst := claim_step (n := n) (Obj.cells #[Value.string nmz, Value.string owz, Value.bool bz, Value.int IntKind.i64 rz, Value.slice a' n1 c'] 39) hb hsz hb1' HRow.out HRiv.out (v := .slice a' n1 c') (by rw [HC.out]; exact hown.out)
        rw [set5 w1 w.heap.size (i * 5) nmz owz bz rz (.slice a' n1 c') c.rivals, ← hcc]
        exact ⟨i + 1, by omega, by go_num, hst.1, hst.2.1, hst.2.2⟩
      case measure => simp [intOf]; omega
    · have hie : n = i := by omega
      subst hie
      obtain ⟨F, hrow, hriv⟩ := hF.out
      have RF : Hid (BK wA (.slice (some ⟨w.heap.size, 0, none⟩) n n) cs F) := ⟨w.heap.size, by rw [HN.out], by rw [HN.out]; exact hrow, by rw [HN.out]; exact hriv⟩
      clear hrow hriv hF
      go_wp2
      go_ret
      exact ⟨F, rfl, RF.out, hb⟩
theorem build10 (v : Value) (cs : List Cm) (w : World) (hP : K w v cs) (hs : SmallC cs) :
    Calls Try.prog 10 #[v] w fun e w' => ∃ u F, e = .returned u ∧ BK w' u cs F ∧ Below w.heap.size w w' :=
  (build10g v cs w hP hs).mono fun _ _ ⟨F, h1, h2, h3⟩ => ⟨_, F, h1, h2, h3⟩
end Go.Proofs.Qxb6617226a
