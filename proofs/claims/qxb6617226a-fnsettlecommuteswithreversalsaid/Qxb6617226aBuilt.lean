/- What buildPaired lays, and the laws on its rows. -/
import Derived.Test.Qxb6617226aFlat
import Derived.Deep.OwnRows
import Derived.Laws.IdiomCopy
import Derived.Laws.Rows
import Derived.BigRegion
namespace Go.Proofs.Qxb6617226a
open Go.RowKit

/-- The cells of one model.Class as the law lays it. -/
def clsv (s : ByteArray) (b : Bool) : List Value :=
  [.string s, .string ByteArray.empty, .slice none 0 0, .bool b, .bool false, .slice none 0 0, .bool false, .bool false, .bool false, .bool false, .slice none 0 0, .slice none 0 0, .bool false, .slice none 0 0]
theorem Try.info68 : (Try.prog.info? 68).map (fun i => (i.zero, i.size, i.bytes)) = some (some (.agg (clsv ByteArray.empty false).toArray), 14, 176) := by kernel_rfl
theorem Try.info61 : (Try.prog.info? 61).map (fun i => (i.zero, i.size, i.bytes)) = some (some (.slice none 0 0), 1, 24) := by kernel_rfl
theorem Try.info69 : (Try.prog.info? 69).map (fun i => (i.zero, i.size, i.bytes)) = some (some (.pointer none), 1, 8) := by kernel_rfl

/-- n cells from o on are there and may be written. -/
def Room (w : World) (g o n : Nat) : Prop := ∀ j, j < n → (w.cell? ⟨g, o + j, none⟩).isSome = true ∧ w.frozen? ⟨g, o + j, none⟩ = false

theorem storeAt_room (w : World) (g o : Nat) (s : ByteArray) (b : Bool) (hr : Room w g o 14) :
    (Instr.storeAt 68 (.pointer (some ⟨g, o, none⟩)) (.agg #[.string s, .string { data := #[] }, .slice none 0 0, .bool b, .bool false, .slice none 0 0, .bool false, .bool false, .bool false, .bool false, .slice none 0 0, .slice none 0 0, .bool false, .slice none 0 0])).run Try.prog w = .ok () (w.setCells g o (clsv s b)) := by
  obtain ⟨i0, hi, hz0, hz1, hz2⟩ := info_parts Try.info68
  have hst := run_storeCells_cells (P := Try.prog) g o (clsv s b) 0 w (fun j hj => (hr j (by simpa [clsv] using hj)).1) (fun j hj => (hr j (by simpa [clsv] using hj)).2) (by simp [clsv]; exact ⟨rfl, rfl, rfl, rfl, rfl, rfl, rfl, rfl, rfl, rfl⟩)
  simp only [Nat.add_zero] at hst
  unfold Instr.storeAt
  simp [Instr.sureAddr, storeVar, sizeOf, typeInfo, hi, hz1, Value.cells]
  exact hst

theorem rowIs_setCells {g t n : Nat} : ∀ (vs : List Value) (o : Nat) (w : World) (f : Nat → Value), w.rowIs g t n f →
    (w.setCells g o vs).rowIs g t n (fun j => if o ≤ j ∧ j < o + vs.length then vs.getD (j - o) (f j) else f j)
  | [], o, w, f, h => h.congr fun i _ => by rw [if_neg (by simp)]
  | v :: r, o, w, f, h => by
    refine (rowIs_setCells r (o + 1) _ _ (h.set o v)).congr fun i _ => ?_
    simp only [List.length_cons]
    by_cases e : i = o
    · subst e
      rw [if_neg (by omega), if_pos rfl, if_pos (by omega), Nat.sub_self]; rfl
    · rw [if_neg e]
      by_cases e2 : o + 1 ≤ i ∧ i < o + 1 + r.length
      · rw [if_pos e2, if_pos (by omega), show i - o = (i - (o + 1)) + 1 from by omega]; rfl
      · rw [if_neg e2, if_neg (by omega)]
theorem below_setCells {B : Nat} {w0 : World} {g : Nat} (hg : B ≤ g) : ∀ (vs : List Value) (o : Nat) (w : World), Below B w0 w → Below B w0 (w.setCells g o vs)
  | [], _, _, h => h
  | v :: r, o, _, h => below_setCells hg r (o + 1) _ (h.setCell (p := ⟨g, o, none⟩) hg v)
theorem size_setCells {g : Nat} : ∀ (vs : List Value) (o : Nat) (w : World), (w.setCells g o vs).heap.size = w.heap.size
  | [], _, _ => rfl
  | v :: r, o, w => by rw [World.setCells, size_setCells r (o + 1)]; simp [World.setCell]

theorem Room.of {w : World} {g t n : Nat} {f : Nat → Value} (h : w.rowIs g t n f) (o k : Nat) (hk : o + k ≤ n) : Room w g o k := fun j hj =>
  ⟨by rw [h.cell (by omega)]; rfl, h.frozen _⟩

/-- The cells of a row of classes: the first k laid, the others nought. -/
def cf (L : List Cl) (i : Nat) : Value := (clsv (nm L (i / 14)) (ns L (i / 14))).getD (i % 14) undef
def zf (i : Nat) : Value := (clsv ByteArray.empty false).getD (i % 14) undef
def part (L : List Cl) (k i : Nat) : Value := if i < k * 14 then cf L i else zf i

theorem made68 (w : World) (n : Nat) : (w.alloc (.cells (madeCells (clsv ByteArray.empty false).toArray (n * 14)) 68)).rowIs w.heap.size 68 (n * 14) (part [] 0) := by
  refine ⟨_, Go.Deep.blk_alloc_new _ _, size_madeCells _ _, fun i hi => ?_⟩
  have h14 : i % 14 < 14 := Nat.mod_lt _ (by decide)
  simp only [madeCells, Array.getElem?_map, Array.getElem?_range, hi, if_true, Option.map_some, part]
  rw [if_neg (by omega)]
  unfold zf
  have hs : (clsv ByteArray.empty false).toArray.size = 14 := rfl
  rw [hs]
  generalize i % 14 = m at *
  match m, h14 with
  | 0, _ | 1, _ | 2, _ | 3, _ | 4, _ | 5, _ | 6, _ | 7, _ | 8, _ | 9, _ | 10, _ | 11, _ | 12, _ | 13, _ => rfl

theorem run_make62 (n : Nat) (hn : n ≤ 1048576) (w : World) :
    (Instr.makeSlice 62 (.int .i64 (n : Int)) (.int .i64 (n : Int))).run Try.prog w = .ok (.slice (some ⟨w.heap.size, 0, none⟩) n n) (w.alloc (.cells (madeCells (clsv ByteArray.empty false).toArray (n * 14)) 68)) := by
  obtain ⟨i0, hi, hz0, hz1, hz2⟩ := info_parts Try.info68
  have := run_make (P := Try.prog) w 62 68 i0 _ Try.underlying62 hi hz0 .i64 .i64 n n (by omega) (Int.le_refl _) (by rw [hz2]; omega) (by omega)
  rw [hz1] at this
  simpa [Value.cells] using this

theorem part_set {w : World} {g : Nat} {L : List Cl} {k n : Nat} (h : w.rowIs g 68 n (part L k)) : (w.setCells g (k * 14) (clsv (nm L k) (ns L k))).rowIs g 68 n (part L (k + 1)) := by
  refine (rowIs_setCells (clsv (nm L k) (ns L k)) (k * 14) w _ h).congr fun j _ => ?_
  have hl : (clsv (nm L k) (ns L k)).length = 14 := rfl
  rw [hl]
  by_cases e : k * 14 ≤ j ∧ j < k * 14 + 14
  · have e1 : j / 14 = k := by omega
    have e2 : j % 14 = j - k * 14 := by omega
    have hp : part L (k + 1) j = cf L j := by unfold part; rw [if_pos (by omega)]
    rw [if_pos e, hp, cf, e1, e2]
    have : j - k * 14 < 14 := by omega
    generalize j - k * 14 = m at *
    generalize part L k j = d
    match m, this with
    | 0, _ | 1, _ | 2, _ | 3, _ | 4, _ | 5, _ | 6, _ | 7, _ | 8, _ | 9, _ | 10, _ | 11, _ | 12, _ | 13, _ => rfl
  · rw [if_neg e, part, part]
    by_cases e3 : j < k * 14
    · rw [if_pos e3, if_pos (by omega)]
    · rw [if_neg e3, if_neg (by omega)]
theorem part_zero (L : List Cl) : part [] 0 = part L 0 := by
  funext i; unfold part; rw [if_neg (by omega), if_neg (by omega)]
theorem part_all {w : World} {g : Nat} {L : List Cl} (h : w.rowIs g 68 (L.length * 14) (part L L.length)) : w.rowIs g 68 (L.length * 14) (cf L) :=
  h.congr fun i hi => by rw [part, if_pos hi]

/-! ### What has been built -/
def HB (w : World) (S : Nat → Prop) (v : Value) (L : List Cl) : Prop :=
  ∃ hb g, v = .pointer (some ⟨hb, 0, none⟩) ∧ S hb ∧ S g ∧ w.cell? ⟨hb, 3, none⟩ = some (.slice (some ⟨g, 0, none⟩) L.length L.length) ∧ w.rowIs g 68 (L.length * 14) (cf L)
def MB (w : World) (S : Nat → Prop) (v : Value) (M : List (List Cl)) : Prop :=
  ∃ g, v = .slice (some ⟨g, 0, none⟩) M.length M.length ∧ S g ∧ ∃ f : Nat → Value, w.rowIs g 69 M.length f ∧ ∀ j, j < M.length → HB w S (f j) (at1 M j)
def PB (w : World) (v : Value) (P : List (List (List Cl))) : Prop :=
  ∃ g off cap, v = .slice (some ⟨g, off, none⟩) P.length cap ∧ P.length ≤ 9223372036854775807 ∧ P.length ≤ cap ∧ ∀ i, i < P.length → ∃ u, w.cell? ⟨g, off + i, none⟩ = some u ∧ MB w (fun _ => True) u (at2 P i)

theorem HB.keep {w w' : World} {S S' : Nat → Prop} {v : Value} {L : List Cl} (h : HB w S v L) (hk : ∀ b, S b → b < w.heap.size → w'.heap[b]? = w.heap[b]?) (hs : ∀ b, S b → S' b) : HB w' S' v L := by
  obtain ⟨hb, g, hv, s1, s2, hc, hr⟩ := h
  exact ⟨hb, g, hv, hs _ s1, hs _ s2, (World.cell?_of_block (w := w) (hk hb s1 (World.block_lt_of_cell? _ _ hc))).trans hc, hr.of_block (hk g s2 hr.lt)⟩
theorem MB.keep {w w' : World} {S S' : Nat → Prop} {v : Value} {M : List (List Cl)} (h : MB w S v M) (hk : ∀ b, S b → b < w.heap.size → w'.heap[b]? = w.heap[b]?) (hs : ∀ b, S b → S' b) : MB w' S' v M := by
  obtain ⟨g, hv, s1, f, hr, hj⟩ := h
  exact ⟨g, hv, hs _ s1, f, hr.of_block (hk g s1 hr.lt), fun j h => (hj j h).keep hk hs⟩
theorem PB.below {w w' : World} {v : Value} {P : List (List (List Cl))} (h : PB w v P) (hb : Below w.heap.size w w') : PB w' v P := by
  obtain ⟨g, off, cap, hv, hl, hcap, hi⟩ := h
  refine ⟨g, off, cap, hv, hl, hcap, fun i h => ?_⟩
  obtain ⟨u, hc, hm⟩ := hi i h
  exact ⟨u, cell_later hb hc, hm.keep (fun b _ hlt => hb.block b hlt) (fun _ h => h)⟩
theorem inner_small (P : List (List (List Cl))) (hs : Small P) (i j : Nat) (hi : i < P.length) (hj : j < (at2 P i).length) : (at1 (at2 P i) j).length ≤ 1048576 := by
  have h4 := cM_succ (at2 P i) j hj
  have h5 := cM_mono (at2 P i) (j + 1) ((at2 P i).length - (j + 1)) (by omega)
  rw [show j + 1 + ((at2 P i).length - (j + 1)) = (at2 P i).length from by omega] at h5
  have h6 := cP_succ P i hi
  have h7 := cP_mono P (i + 1) (P.length - (i + 1)) (by omega)
  rw [show i + 1 + (P.length - (i + 1)) = P.length from by omega] at h7
  have h8 := hs.c
  omega

end Go.Proofs.Qxb6617226a
