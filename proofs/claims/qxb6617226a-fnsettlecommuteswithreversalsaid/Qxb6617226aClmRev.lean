/- buildClaimsReversed. -/
import Derived.Test.Qxb6617226aClmBuild
namespace Go.Proofs.Qxb6617226a
open Go.RowKit

/-- The cells of the row: the last k claims laid, the others nought. -/
def rcell (cs : List Cm) (F : Nat → Value) (n k j : Nat) : Value := if (n - k) * 5 ≤ j then (c5 (cat cs (j / 5)) (F (j / 5))).getD (j % 5) undef else z5.getD (j % 5) undef

theorem rcell_zero {w : World} {g n : Nat} (cs : List Cm) (F : Nat → Value) (h : w.rowIs g 39 (n * 5) (ccell cs F 0)) : w.rowIs g 39 (n * 5) (rcell cs F n 0) :=
  h.congr fun j hj => by unfold ccell rcell; rw [if_neg (by omega), if_neg (by omega)]
theorem rcell_all {w : World} {g n : Nat} {cs : List Cm} {F : Nat → Value} (h : w.rowIs g 39 (n * 5) (rcell cs F n n)) : w.rowIs g 39 (n * 5) (ccell cs F n) :=
  h.congr fun j hj => by unfold ccell rcell; rw [if_pos (by omega), if_pos hj]

/-- One claim more. -/
theorem rcell_set {w : World} {g n k q : Nat} {cs : List Cm} {F : Nat → Value} {v : Value} (hq : q + k + 1 = n) (h : w.rowIs g 39 (n * 5) (rcell cs F n k)) : (w.setCells g (q * 5) (c5 (cat cs q) v)).rowIs g 39 (n * 5) (rcell cs (upd F q v) n (k + 1)) := by
  refine (rowIs_setCells (c5 (cat cs q) v) (q * 5) w _ h).congr fun j _ => ?_
  have hl : (c5 (cat cs q) v).length = 5 := rfl
  rw [hl]
  by_cases e : q * 5 ≤ j ∧ j < q * 5 + 5
  · have e1 : j / 5 = q := by omega
    have e2 : j % 5 = j - q * 5 := by omega
    have hp : rcell cs (upd F q v) n (k + 1) j = (c5 (cat cs q) v).getD (j - q * 5) undef := by
      unfold rcell; rw [if_pos (by omega), e1, e2, upd, if_pos rfl]
    rw [if_pos e, hp]
    have : j - q * 5 < 5 := by omega
    generalize j - q * 5 = m at *
    generalize rcell cs F n k j = d
    match m, this with
    | 0, _ | 1, _ | 2, _ | 3, _ | 4, _ => rfl
  · rw [if_neg e]
    unfold rcell
    by_cases e3 : (n - k) * 5 ≤ j
    · rw [if_pos e3, if_pos (by omega), upd, if_neg (by omega)]
    · rw [if_neg e3, if_neg (by omega)]

def RivR (w : World) (B : Nat) (cs : List Cm) (F : Nat → Value) (n k : Nat) : Prop :=
  (∀ i, n - k ≤ i → i < n → OwnS w B (F i) (cat cs i).rivals) ∧ ∀ i j, n - k ≤ i → i < n → n - k ≤ j → j < n → i ≠ j → (F i).ownBlock = none ∨ (F i).ownBlock ≠ (F j).ownBlock
theorem RivR.all {w : World} {B : Nat} {cs : List Cm} {F : Nat → Value} {n : Nat} (h : RivR w B cs F n n) : Riv w B cs F n :=
  ⟨fun i hi => h.1 i (by omega) hi, fun i j hi hj => h.2 i j (by omega) hi (by omega) hj⟩

theorem rev_step {w wA w1 : World} {n i q : Nat} {cs : List Cm} {F : Nat → Value} {v : Value} (o : Obj) (hq : q + i + 1 = n) (hb : Below w.heap.size w wA) (hsz : w.heap.size < wA.heap.size) (hb1 : Below wA.heap.size wA w1)
    (hrow : wA.rowIs w.heap.size 39 (n * 5) (rcell cs F n i)) (hriv : RivR wA (w.heap.size + 1) cs F n i) (hown : OwnS w1 wA.heap.size v (cat cs q).rivals) :
    Below w.heap.size w ((w1.setCells w.heap.size (q * 5) (c5 (cat cs q) v)).alloc o) ∧ w.heap.size < ((w1.setCells w.heap.size (q * 5) (c5 (cat cs q) v)).alloc o).heap.size ∧
    Hid (∃ F' : Nat → Value, ((w1.setCells w.heap.size (q * 5) (c5 (cat cs q) v)).alloc o).rowIs w.heap.size 39 (n * 5) (rcell cs F' n (i + 1)) ∧ RivR ((w1.setCells w.heap.size (q * 5) (c5 (cat cs q) v)).alloc o) (w.heap.size + 1) cs F' n (i + 1)) := by
  have hs1 : (w1.setCells w.heap.size (q * 5) (c5 (cat cs q) v)).heap.size = w1.heap.size := size_setCells _ _ _
  have hl1 := hb1.size
  have oth : ∀ b, b ≠ w.heap.size → b < w1.heap.size → ((w1.setCells w.heap.size (q * 5) (c5 (cat cs q) v)).alloc o).heap[b]? = w1.heap[b]? := by
    intro b hne hlt
    rw [Below.heap_alloc _ _ _ (by omega), setCells_other hne]
  refine ⟨(below_setCells (Nat.le_refl _) _ _ _ (hb.trans (hb1.mono (by omega)))).alloc (by omega) _, by rw [World.size_alloc]; omega, upd F q v, (rcell_set hq (hrow.of_block (hb1.block _ hsz))).alloc _, fun i' hl' hi' => ?_, fun i' j' hl' hi' hm' hj' hne => ?_⟩
  · unfold upd
    by_cases e : i' = q
    · subst e
      rw [if_pos rfl]
      exact hown.move (by omega) (fun b hb hlt => oth b (by omega) hlt)
    · rw [if_neg e]
      refine (hriv.1 i' (by omega) hi').move (Nat.le_refl _) (fun b hb hlt => ?_)
      rw [oth b (by omega) (by omega), hb1.block b hlt]
  · have low : ∀ p, n - i ≤ p → p < n → ∀ x, (F p).ownBlock = some x → x < wA.heap.size := fun p hp1 hp2 x hx => (World.ownsRow.lt (hriv.1 p hp1 hp2) x hx).2
    have high : ∀ x, v.ownBlock = some x → wA.heap.size ≤ x := fun x hx => (World.ownsRow.lt hown x hx).1
    unfold upd
    by_cases e : i' = q
    · subst e
      rw [if_pos rfl, if_neg (fun h => hne h.symm)]
      cases hv : v.ownBlock with
      | none => exact Or.inl rfl
      | some x =>
        right
        intro h
        have h1 := high x hv
        have h2 := low j' (by omega) hj' x h.symm
        omega
    · rw [if_neg e]
      by_cases e2 : j' = q
      · subst e2
        rw [if_pos rfl]
        cases hv : (F i').ownBlock with
        | none => exact Or.inl rfl
        | some x =>
          right
          intro h
          have h1 := low i' (by omega) hi' x hv
          have h2 := high x h.symm
          omega
      · rw [if_neg e2]
        exact hriv.2 i' j' (by omega) hi' (by omega) hj' hne

theorem cat_rev {cs : List Cm} {q i : Nat} (h : q + i + 1 = cs.length) : cat cs.reverse q = cat cs i := by
  unfold cat
  rw [List.getD_eq_getElem?_getD, List.getD_eq_getElem?_getD, List.getElem?_reverse (by omega), show cs.length - 1 - q = i from by omega]

set_option maxRecDepth 100000 in
set_option maxHeartbeats 4000000 in
theorem build27 (v : Value) (cs : List Cm) (n : Nat) (w : World) (HN : Hid (cs.length = n)) (hP : K w v cs) (hs : SmallC cs) :
    Calls Try.prog 27 #[v] w fun e w' => ∃ F, e = .returned (.slice (some ⟨w.heap.size, 0, none⟩) n n) ∧ BK w' (.slice (some ⟨w.heap.size, 0, none⟩) n n) cs.reverse F ∧ Below w.heap.size w w' := by
  obtain ⟨a, cap, rfl, hl, hk⟩ := hP
  have hsn := hs.n
  rw [HN.out] at hl hk hsn ⊢
  have HK : Hid (∀ i, i < n → ∃ b off ra rc, a = some ⟨b, off, none⟩ ∧ Five w b (off + i * 5) (cat cs i) ra rc) := hk
  have HSr : Hid (∀ i, i < n → (cat cs i).rivals.length ≤ 1048576) := by rw [← HN.out]; exact hs.r
  clear hk hs
  have hmk := run_make24 n (by omega)
  have HR0 : Hid ((w.alloc (.cells (madeCells z5.toArray (n * 5)) 39)).rowIs w.heap.size 39 (n * 5) (rcell cs.reverse (fun _ => undef) n 0)) := rcell_zero _ _ (made39 w n cs.reverse _)
  go_enter Try.func27, Try.ntmps27
  go_wp2
  go_loopw [5] (fun i wr => ∃ (k : Nat), k ≤ n ∧ i = .int .i64 k ∧ Below w.heap.size w wr ∧ w.heap.size < wr.heap.size ∧ Hid (∃ F : Nat → Value, wr.rowIs w.heap.size 39 (n * 5) (rcell cs.reverse F n k) ∧ RivR wr (w.heap.size + 1) cs.reverse F n k)) (fun i _ => n - (intOf i).toNat)
  case atStart => exact ⟨0, Nat.zero_le _, rfl, (Below.refl _ _).alloc (Nat.le_refl _) _, by simp, ⟨_, HR0.out, fun i h1 h2 => absurd h2 (by omega), fun i j h1 h2 => absurd h2 (by omega)⟩⟩
  case round =>
    obtain ⟨i, hin, rfl, hb, hsz, hF⟩ := hrel
    rename World => wA
    by_cases hlt : i < n
    · obtain ⟨b, off, ra, rc, rfl, h5⟩ := HK.out i hlt
      obtain ⟨F, hrow, hriv⟩ := hF.out
      have h5A := h5.below hb
      obtain ⟨c, hci⟩ : ∃ c, cat cs i = c := ⟨_, rfl⟩
      have HC : Hid (cat cs i = c) := hci
      have hrl := HSr.out i hlt
      rw [hci] at h5 h5A hrl
      clear hci
      have f0 := h5A.c0
      have f1 := h5A.c1
      have f2 := h5A.c2
      have f3 := h5A.c3
      have f4 := h5A.c4
      have hbw : b < wA.heap.size := World.block_lt_of_cell? _ _ f0
      have hbB : b < w.heap.size := World.block_lt_of_cell? _ _ h5.c0
      obtain ⟨n1, hn1⟩ : ∃ z, c.rivals.length = z := ⟨_, rfl⟩
      rw [hn1] at f4 hrl
      have HN1 : Hid (c.rivals.length = n1) := hn1
      have HR : Hid (SRow wA.drew ra c.rivals) := h5A.row
      have HZ : Hid (ra = none → rc = 0) := h5A.nil
      clear h5 h5A hn1
      have e1 : (i : Int) < n := by omega
      obtain ⟨q, hq⟩ : ∃ q : Nat, q + i + 1 = n := ⟨n - 1 - i, by omega⟩
      have HQ : Hid (q + i + 1 = n) := hq
      have e2 : (n : Int) - 1 - (i : Int) = (q : Int) := by omega
      have e3 : (q : Int) < n := by omega
      have e4 : (0 : Int) ≤ q := by omega
      have u1 : IntKind.i64.wrap ((n : Int) - 1) = (n : Int) - 1 := Go.IntWalk.i64_in _ (by omega)
      have u2 : IntKind.i64.wrap (q : Int) = (q : Int) := Go.IntWalk.i64_in _ (by omega)
      obtain ⟨nmz, hnmz⟩ : ∃ z, c.name = z := ⟨_, rfl⟩
      obtain ⟨owz, howz⟩ : ∃ z, c.owner = z := ⟨_, rfl⟩
      obtain ⟨bz, hbz⟩ : ∃ z, c.cst = z := ⟨_, rfl⟩
      obtain ⟨rz, hrz⟩ : ∃ z, c.rank = z := ⟨_, rfl⟩
      rw [hnmz] at f0
      rw [howz] at f1
      rw [hbz] at f2
      rw [hrz] at f3
      have HE : Hid (c.name = nmz ∧ c.owner = owz ∧ c.cst = bz ∧ c.rank = rz) := ⟨hnmz, howz, hbz, hrz⟩
      clear hnmz howz hbz hrz
      have HRow : Hid (wA.rowIs w.heap.size 39 (n * 5) (rcell cs.reverse F n i)) := hrow
      have HRiv : Hid (RivR wA (w.heap.size + 1) cs.reverse F n i) := hriv
      clear hrow hriv hF
      have hne : b ≠ w.heap.size := by omega
      have hne2 : w.heap.size ≠ b := by omega
      go_wp2
      go_region_held3 (fun w' => w'.cell? ⟨b, off + i * 5, none⟩ = some (.string nmz) ∧ w'.cell? ⟨b, off + i * 5 + 1, none⟩ = some (.string owz) ∧ w'.cell? ⟨b, off + i * 5 + 2, none⟩ = some (.bool bz) ∧ w'.cell? ⟨b, off + i * 5 + 3, none⟩ = some (.int .i64 rz) ∧ w'.cell? ⟨b, off + i * 5 + 4, none⟩ = some (.slice ra n1 rc)) (first | go_keep | skip)
        (first | (go_at_call 23; refine (clone_any ra n1 rc c.rivals _ HN1 hrl HZ.out (by exact HR)).mono ?_; rintro e w1 ⟨a', c', rfl, hown, hb1⟩; have d0 : w1.cell? ⟨w.heap.size, q * 5, none⟩ = some (rcell cs.reverse F n i (q * 5)) := cell_later (w := wA.drew) hb1 (HRow.out.cell (by omega)); have z0 : w1.frozen? ⟨w.heap.size, q * 5, none⟩ = false := (hb1.frozen (p := ⟨w.heap.size, q * 5, none⟩) hsz).trans (HRow.out.frozen _); have k0 := cell_later (w := wA.drew) hb1 f0; have d1 : w1.cell? ⟨w.heap.size, q * 5 + 1, none⟩ = some (rcell cs.reverse F n i (q * 5 + 1)) := cell_later (w := wA.drew) hb1 (HRow.out.cell (by omega)); have z1 : w1.frozen? ⟨w.heap.size, q * 5 + 1, none⟩ = false := (hb1.frozen (p := ⟨w.heap.size, q * 5 + 1, none⟩) hsz).trans (HRow.out.frozen _); have k1 := cell_later (w := wA.drew) hb1 f1; have d2 : w1.cell? ⟨w.heap.size, q * 5 + 2, none⟩ = some (rcell cs.reverse F n i (q * 5 + 2)) := cell_later (w := wA.drew) hb1 (HRow.out.cell (by omega)); have z2 : w1.frozen? ⟨w.heap.size, q * 5 + 2, none⟩ = false := (hb1.frozen (p := ⟨w.heap.size, q * 5 + 2, none⟩) hsz).trans (HRow.out.frozen _); have k2 := cell_later (w := wA.drew) hb1 f2; have d3 : w1.cell? ⟨w.heap.size, q * 5 + 3, none⟩ = some (rcell cs.reverse F n i (q * 5 + 3)) := cell_later (w := wA.drew) hb1 (HRow.out.cell (by omega)); have z3 : w1.frozen? ⟨w.heap.size, q * 5 + 3, none⟩ = false := (hb1.frozen (p := ⟨w.heap.size, q * 5 + 3, none⟩) hsz).trans (HRow.out.frozen _); have k3 := cell_later (w := wA.drew) hb1 f3; have d4 : w1.cell? ⟨w.heap.size, q * 5 + 4, none⟩ = some (rcell cs.reverse F n i (q * 5 + 4)) := cell_later (w := wA.drew) hb1 (HRow.out.cell (by omega)); have z4 : w1.frozen? ⟨w.heap.size, q * 5 + 4, none⟩ = false := (hb1.frozen (p := ⟨w.heap.size, q * 5 + 4, none⟩) hsz).trans (HRow.out.frozen _); have k4 := cell_later (w := wA.drew) hb1 f4; have q0 := World.new_ne w1 _ k0; have q1 : w.heap.size < w1.heap.size := Nat.lt_of_lt_of_le hsz hb1.size) | (go_at_call 36; refine (make36 _ _ _ _ _ _ _ _).mono ?_; rintro e w2 ⟨rfl, rfl⟩))
      go_wp2
      go_roundw
      case rel =>
        have hcc : cat cs.reverse q = ⟨nmz, owz, bz, rz, c.rivals⟩ := by
          rw [cat_rev (i := i) (by rw [HN.out]; exact HQ.out), HC.out]
          obtain ⟨h1, h2, h3, h4⟩ := HE.out
          cases c
          simp only at h1 h2 h3 h4
          rw [h1, h2, h3, h4]
        have hb1' : Below wA.heap.size wA w1 := ⟨hb1.os, hb1.tape, hb1.output, hb1.size, hb1.block⟩
        have hst := rev_step (Obj.cells #[Value.string nmz, Value.string owz, Value.bool bz, Value.int IntKind.i64 rz, Value.slice a' n1 c'] 39) HQ.out hb hsz hb1' HRow.out HRiv.out (v := .slice a' n1 c') (by rw [hcc]; exact hown.out)
        rw [set5 w1 w.heap.size (q * 5) nmz owz bz rz (.slice a' n1 c') c.rivals, ← hcc]
        exact ⟨i + 1, by omega, by go_num, hst.1, hst.2.1, hst.2.2⟩
      case measure => simp [intOf]; omega
    · have hie : n = i := by omega
      subst hie
      obtain ⟨F, hrow, hriv⟩ := hF.out
      have hrn : cs.reverse.length = n := by rw [List.length_reverse]; exact HN.out
      have RF : Hid (BK wA (.slice (some ⟨w.heap.size, 0, none⟩) n n) cs.reverse F) := ⟨w.heap.size, by rw [hrn], by rw [hrn]; exact rcell_all hrow, by rw [hrn]; exact hriv.all⟩
      clear hrow hriv hF
      go_wp2
      go_ret
      exact ⟨F, rfl, RF.out, hb⟩
end Go.Proofs.Qxb6617226a
