import Derived.Test.Qxb6623515aLagr
import Derived.Deep.OwnRows
import Derived.Deep.DeepCutAuto
import Derived.Laws.CopyRow
import Derived.Laws.IdiomCopy
namespace Go.Proofs.Qxb6623515a
open Go.RowKit

theorem Try.info2 : (Try.prog.info? 2).map (fun i => (i.zero, i.size, i.bytes)) = some (some (.int .i64 0), 1, 8) := by kernel_rfl

set_option maxHeartbeats 400000 in
theorem bytes_yes (s : Option Addr) (len cap : Nat) (k : Int) (w : World) (h : len ≤ 1048576) :
    Calls Try.prog 5 #[.slice s len cap, .int .i64 k] w fun e w' => e = .returned (.bool true) ∧ w' = w := by
  go_enter Try.func5, Try.ntmps5
  go_wp2
  go_ret
  exact ⟨rfl, rfl⟩

set_option maxHeartbeats 400000 in
theorem bytes_no (s : Option Addr) (len cap : Nat) (k : Int) (w : World) (h : 1048576 < len) :
    Calls Try.prog 5 #[.slice s len cap, .int .i64 k] w fun e w' => e = .returned (.bool false) ∧ w' = w := by
  go_enter Try.func5, Try.ntmps5
  go_wp2
  go_ret
  exact ⟨rfl, rfl⟩

/-- 'copy(zzc, s)' into the row just made. -/
theorem copy_made (w : World) (x : Addr) (len cap : Nat) (z : Nat → Int) (hc : ∀ j, j < len → w.cell? (x.add j) = some (.int .i64 (z j))) :
    ∃ w2, (∀ ty, (Builtin.copy_ #[22, 22] ty #[.slice (some ⟨w.heap.size, 0, none⟩) len len, .slice (some x) len cap]).run Try.prog (w.alloc (.cells (madeCells #[Value.int .i64 0] len) 2)) = .ok (goInt len) w2)
      ∧ Row w2 (some ⟨w.heap.size, 0, none⟩) len z ∧ Below w.heap.size w w2 ∧ w2.heap.size = w.heap.size + 1 := by
  have hs1 : (Try.prog.info? 2).map (·.size) = some 1 := by kernel_rfl
  have hg : (w.alloc (.cells (madeCells #[Value.int .i64 0] len) 2)).heap[w.heap.size]? = some (.cells (madeCells #[Value.int .i64 0] len) 2 (0, 0)) := by
    show (w.heap.push _)[w.heap.size]? = _
    simp
  have hsrc : ∀ j v, ((List.range len).map fun j => Value.int .i64 (z j))[j]? = some v → (w.alloc (.cells (madeCells #[Value.int .i64 0] len) 2)).cell? (x.add j) = some v := by
    intro j v hj
    simp only [List.getElem?_map, Option.map_eq_some_iff] at hj
    obtain ⟨i, hi, rfl⟩ := hj
    have hlt : j < len := by
      have := (List.getElem?_eq_some_iff.1 hi).1; simpa using this
    have : i = j := by
      have := (List.getElem?_eq_some_iff.1 hi).2; simp at this; exact this.symm
    subst this
    have h1 := hc i hlt
    rw [World.cell?_alloc_lt _ _ _ (World.block_lt_of_cell? _ _ h1)]
    exact h1
  have hrun := fun ty => run_copy_row (P := Try.prog) (w.alloc (.cells (madeCells #[Value.int .i64 0] len) 2)) 22 22 ty 2 w.heap.size 0 len len x len cap _ 2 ((List.range len).map fun j => Value.int .i64 (z j)) Try.underlying22 hs1 hg (by simp) hsrc (by simp [size_madeCells]) (by intro v hv; simp at hv; obtain ⟨j, _, rfl⟩ := hv; rfl)
  have hA : (((madeCells #[Value.int .i64 0] len).toList.take 0 ++ ((List.range len).map fun j => Value.int .i64 (z j)) ++ (madeCells #[Value.int .i64 0] len).toList.drop (0 + ((List.range len).map fun j => Value.int .i64 (z j)).length)).toArray) = ((List.range len).map fun j => Value.int .i64 (z j)).toArray := by
    have : (madeCells #[Value.int .i64 0] len).toList.drop (0 + ((List.range len).map fun j => Value.int .i64 (z j)).length) = [] := by
      apply List.drop_eq_nil_of_le; simp [size_madeCells]
    rw [this]; simp
  rw [hA] at hrun
  have hl : ((List.range len).map fun j => Value.int .i64 (z j)).length = len := by simp
  rw [hl] at hrun
  refine ⟨_, hrun, ?_, ?_, ?_⟩
  · intro j hj
    refine ⟨_, _, rfl, ?_⟩
    have hh := setRow_heap _ _ _ (((List.range len).map fun j => Value.int .i64 (z j)).toArray) _ _ hg
    simp only [World.cell?, hh]
    simp [hj]
  · refine ((Below.refl _ _).alloc (Nat.le_refl _) _).trans ⟨rfl, rfl, rfl, by simp [World.setRow], fun k hk => setRow_other _ _ _ _ (by omega)⟩
  · simp [World.setRow]

/-- The first n cells of the turned list. -/
def rowOf (z : Nat → Int) (len c n : Nat) : List Value := (List.range n).map fun j => .int .i64 (turn z len c j)
theorem rowOf_zero (z : Nat → Int) (len c : Nat) : rowOf z len c 0 = [] := rfl
theorem rowOf_length (z : Nat → Int) (len c n : Nat) : (rowOf z len c n).length = n := by simp [rowOf]
theorem rowOf_snoc1 (z : Nat → Int) (len c k : Nat) (h1 : c ≤ k) (h2 : k < len) : rowOf z len c (k - c) ++ [.int .i64 (z k)] = rowOf z len c (k + 1 - c) := by
  rw [show k + 1 - c = k - c + 1 from by omega]
  simp only [rowOf, List.range_succ, List.map_append, List.map_cons, List.map_nil]
  rw [turn, if_pos (by omega), show c + (k - c) = k from by omega]
theorem rowOf_snoc2 (z : Nat → Int) (len c k : Nat) : rowOf z len c (len - c + k) ++ [.int .i64 (z k)] = rowOf z len c (len - c + (k + 1)) := by
  rw [show len - c + (k + 1) = len - c + k + 1 from by omega]
  simp only [rowOf, List.range_succ, List.map_append, List.map_cons, List.map_nil]
  rw [turn, if_neg (by omega), show len - c + k - (len - c) = k from by omega]

theorem app_step {wc wr w1 : World} {v : Value} {n : Nat} {xs : List Value} {o : Obj} (hb : Below wc.heap.size wc wr) (hown : wr.ownsRow wc.heap.size 2 1 v n xs) (hg : (wr.alloc o).grownBy w1 v.ownBlock) :
    Below wc.heap.size wc w1 :=
  (hb.alloc hb.size o).grown hg (by have := hb.size; simp; omega) (fun k e => (hown.lt k e).1)

theorem row_below {wc wr : World} {a : Option Addr} {len : Nat} {z : Nat → Int} (h : Row wc a len z) (hb : Below wc.heap.size wc wr) : Row wr a len z := by
  intro j hj
  obtain ⟨b, off, ha, hc⟩ := h j hj
  exact ⟨b, off, ha, cell_later hb hc⟩

theorem row_owned {w : World} {B : Nat} {v : Value} {len c : Nat} {z : Nat → Int} (h : w.ownsRow B 2 1 v len (rowOf z len c len)) : ∃ a cap, v = .slice a len cap ∧ Row w a len (turn z len c) := by
  have h0 := h
  obtain ⟨h1, h2 | ⟨g, cap, cur, hv, _⟩⟩ := h
  · obtain ⟨rfl, hn⟩ := h2
    subst hn
    exact ⟨none, 0, rfl, fun j hj => absurd hj (by omega)⟩
  · refine ⟨_, cap, hv, ?_⟩
    intro j hj
    have := h0.cells (g := g) (by rw [hv]; rfl) j (.int .i64 (turn z len c j)) (by simp [rowOf, hj])
    exact ⟨g, 0, rfl, by rw [← Go.WideShapes.add_plain]; exact this⟩

theorem wrap_u64_in (x : Int) (h0 : 0 ≤ x) (h1 : x < 18446744073709551616) : IntKind.u64.wrap x = x := by
  rw [IntKind.wrap_u64]; omega

/-- One squared difference more. -/
theorem d_step (z : Nat → Int) (n k jn : Nat) (hn : n ≤ 4096) (hz : ∀ j, j < n → -1048576 < z j ∧ z j < 1048576) (h1 : k + 1 ≤ jn) (h2 : jn < n) (x : Int) (hx : x * x = (z k - z jn) * (z k - z jn)) :
    Value.int IntKind.u64 (IntKind.u64.wrap (Dout z n k + Din z k (jn - (k + 1)) + IntKind.u64.wrap (x * x))) = Value.int IntKind.u64 (Dout z n k + Din z k (jn + 1 - (k + 1))) := by
  have b1 := D_bd z n k (jn - (k + 1)) hn hz (by omega)
  have b2 := D_bd z n k (jn + 1 - (k + 1)) hn hz (by omega)
  have e : jn + 1 - (k + 1) = jn - (k + 1) + 1 := by omega
  have e3 : k + 1 + (jn - (k + 1)) = jn := by omega
  have e2 : Din z k (jn + 1 - (k + 1)) = Din z k (jn - (k + 1)) + (z k - z jn) * (z k - z jn) := by rw [e, Din, e3]
  have hs := sq_nn (z k - z jn)
  rw [e2] at b2 ⊢
  rw [hx]
  rw [wrap_u64_in _ hs (by omega), wrap_u64_in _ (by omega) (by omega), Int.add_assoc]

theorem want_is (z : Nat → Int) (n : Nat) (hn : n ≤ 4096) (hz : ∀ j, j < n → -1048576 < z j ∧ z j < 1048576) (hq : Q z n ≠ 0) :
    ∃ r, floatBits .quo .f64 (F (S z n * S z n)) (F (S z n * S z n + Dout z n n)) = some r ∧ JainIs z n r ∧ (FloatKind.f64.format.order r r == some .eq) = true := by
  have b := SS_bd z n hn hz
  have l := lagrange z n
  have hQ := Q_bd z n hz n (Nat.le_refl _)
  have nb := nQ_bd z n hn hz
  have hpos : 0 < (n : Int) * Q z n := by
    have : n ≠ 0 := by intro h; subst h; exact hq rfl
    exact Int.mul_pos (by omega) (by omega)
  obtain ⟨r, hr, hs⟩ := div_F (S z n * S z n) ((n : Int) * Q z n) b.1 b.2.1 hpos nb.2
  exact ⟨r, by rw [l]; exact hr, Or.inr ⟨hq, hr⟩, hs⟩
end Go.Proofs.Qxb6623515a
