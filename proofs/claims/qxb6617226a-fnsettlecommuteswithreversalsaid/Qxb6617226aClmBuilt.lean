/- What buildClaims lays: a row of claims, their rivals in rows of their own. -/
import Derived.Test.Qxb6617226aClm
import Derived.Test.Qxb6617226aBuilt
namespace Go.Proofs.Qxb6617226a
open Go.RowKit

def c5 (c : Cm) (v : Value) : List Value := [.string c.name, .string c.owner, .bool c.cst, .int .i64 c.rank, v]
def z5 : List Value := [.string ByteArray.empty, .string ByteArray.empty, .bool false, .int .i64 0, .slice none 0 0]
theorem Try.info39 : (Try.prog.info? 39).map (fun i => (i.zero, i.size, i.bytes)) = some (some (.agg z5.toArray), 5, 72) := by kernel_rfl

/-- The cells of the row: the first k claims laid, the others nought. -/
def ccell (cs : List Cm) (F : Nat → Value) (k j : Nat) : Value := if j < k * 5 then (c5 (cat cs (j / 5)) (F (j / 5))).getD (j % 5) undef else z5.getD (j % 5) undef

theorem made39 (w : World) (n : Nat) (cs : List Cm) (F : Nat → Value) : (w.alloc (.cells (madeCells z5.toArray (n * 5)) 39)).rowIs w.heap.size 39 (n * 5) (ccell cs F 0) := by
  refine ⟨_, Go.Deep.blk_alloc_new _ _, size_madeCells _ _, fun i hi => ?_⟩
  have h5 : i % 5 < 5 := Nat.mod_lt _ (by decide)
  simp only [madeCells, Array.getElem?_map, Array.getElem?_range, hi, if_true, Option.map_some, ccell]
  rw [if_neg (by omega)]
  have hs : z5.toArray.size = 5 := rfl
  rw [hs]
  generalize i % 5 = m at *
  match m, h5 with
  | 0, _ | 1, _ | 2, _ | 3, _ | 4, _ => rfl
theorem run_make24 (n : Nat) (hn : n ≤ 1048576) (w : World) :
    (Instr.makeSlice 24 (.int .i64 (n : Int)) (.int .i64 (n : Int))).run Try.prog w = .ok (.slice (some ⟨w.heap.size, 0, none⟩) n n) (w.alloc (.cells (madeCells z5.toArray (n * 5)) 39)) := by
  obtain ⟨i0, hi, hz0, hz1, hz2⟩ := info_parts Try.info39
  have := run_make (P := Try.prog) w 24 39 i0 _ Try.underlying24 hi hz0 .i64 .i64 n n (by omega) (Int.le_refl _) (by rw [hz2]; omega) (by omega)
  rw [hz1] at this
  simpa [Value.cells] using this

theorem ccell_at (cs : List Cm) (F : Nat → Value) (k i m : Nat) (hi : i < k) (hm : m < 5) : ccell cs F k (i * 5 + m) = (c5 (cat cs i) (F i)).getD m undef := by
  unfold ccell
  rw [if_pos (by omega), show (i * 5 + m) / 5 = i from by omega, show (i * 5 + m) % 5 = m from by omega]

def upd (F : Nat → Value) (k : Nat) (v : Value) (i : Nat) : Value := if i = k then v else F i

/-- One claim more. -/
theorem ccell_set {w : World} {g n k : Nat} {cs : List Cm} {F : Nat → Value} {v : Value} (h : w.rowIs g 39 n (ccell cs F k)) : (w.setCells g (k * 5) (c5 (cat cs k) v)).rowIs g 39 n (ccell cs (upd F k v) (k + 1)) := by
  refine (rowIs_setCells (c5 (cat cs k) v) (k * 5) w _ h).congr fun j _ => ?_
  have hl : (c5 (cat cs k) v).length = 5 := rfl
  rw [hl]
  by_cases e : k * 5 ≤ j ∧ j < k * 5 + 5
  · have e1 : j / 5 = k := by omega
    have e2 : j % 5 = j - k * 5 := by omega
    have hp : ccell cs (upd F k v) (k + 1) j = (c5 (cat cs k) v).getD (j - k * 5) undef := by
      unfold ccell; rw [if_pos (by omega), e1, e2, upd, if_pos rfl]
    rw [if_pos e, hp]
    have : j - k * 5 < 5 := by omega
    generalize j - k * 5 = m at *
    generalize ccell cs F k j = d
    match m, this with
    | 0, _ | 1, _ | 2, _ | 3, _ | 4, _ => rfl
  · rw [if_neg e]
    unfold ccell
    by_cases e3 : j < k * 5
    · rw [if_pos e3, if_pos (by omega), upd, if_neg (by omega)]
    · rw [if_neg e3, if_neg (by omega)]

/-- The rivals of the first k claims lie in rows of their own, none in another's. -/
def Riv (w : World) (B : Nat) (cs : List Cm) (F : Nat → Value) (k : Nat) : Prop :=
  (∀ i, i < k → OwnS w B (F i) (cat cs i).rivals) ∧ ∀ i j, i < k → j < k → i ≠ j → (F i).ownBlock = none ∨ (F i).ownBlock ≠ (F j).ownBlock

theorem Riv.kept {w w' : World} {B : Nat} {cs : List Cm} {F : Nat → Value} {k : Nat} (h : Riv w B cs F k) (hb : ∀ b, B ≤ b → b < w.heap.size → w'.heap[b]? = w.heap[b]?) : Riv w' B cs F k := by
  refine ⟨fun i hi => ?_, h.2⟩
  obtain ⟨h1, h2⟩ := h.1 i hi
  refine ⟨h1, ?_⟩
  rcases h2 with h2 | ⟨g, cap, cur, hv, hg, hh, r⟩
  · exact Or.inl h2
  · exact Or.inr ⟨g, cap, cur, hv, hg, (hb g hg (Array.getElem?_eq_some_iff.1 hh).1).trans hh, r⟩

/-- What has been built. -/
def BK (w : World) (v : Value) (cs : List Cm) (F : Nat → Value) : Prop :=
  ∃ g, v = .slice (some ⟨g, 0, none⟩) cs.length cs.length ∧ w.rowIs g 39 (cs.length * 5) (ccell cs F cs.length) ∧ Riv w (g + 1) cs F cs.length

set_option maxHeartbeats 400000 in
theorem make36 (nm ow : ByteArray) (c : Bool) (r : Int) (ra : Option Addr) (n rc : Nat) (w : World) :
    Calls Try.prog 36 #[.string nm, .string ow, .bool c, .int .i64 r, .slice ra n rc] w fun e w' => e = .returned (.agg #[.string nm, .string ow, .bool c, .int .i64 r, .slice ra n rc]) ∧ w' = w.alloc (.cells #[.string nm, .string ow, .bool c, .int .i64 r, .slice ra n rc] 39) := by
  go_enter Try.func36, Try.ntmps36
  go_wp2
  exact bodyPost_ret (v := .agg #[.string nm, .string ow, .bool c, .int .i64 r, .slice ra n rc]) (by simp [results, Try.results36, go_sem]) rfl ⟨rfl, rfl⟩
end Go.Proofs.Qxb6617226a
