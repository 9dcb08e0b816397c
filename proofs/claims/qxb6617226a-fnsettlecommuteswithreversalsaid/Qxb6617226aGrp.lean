/- A map from names to rows of indexes, each row a block of its own. -/
import Derived.Test.Qxb6617226aMap
import Derived.Test.Qxb6617226aClmTop
import Derived.Deep.RegionHeld3
namespace Go.Proofs.Qxb6617226a
open Go.RowKit

/-- The map's entries and the groups, one beside the other; no key twice. -/
def Grp (w : World) (B : Nat) : List (ByteArray × Value) → List (ByteArray × List Nat) → Prop
  | [], [] => True
  | p :: m, q :: h => p.1 = q.1 ∧ OwnI w B p.2 q.2 ∧ q.2 ≠ [] ∧ (∀ r ∈ m, r.1 ≠ p.1 ∧ r.2.ownBlock ≠ p.2.ownBlock) ∧ Grp w B m h
  | _, _ => False

theorem OwnI.block {w : World} {B : Nat} {v : Value} {l : List Nat} (h : OwnI w B v l) (hl : l ≠ []) : ∃ g, v.ownBlock = some g ∧ B ≤ g ∧ g < w.heap.size := by
  have h0 := h
  obtain ⟨h1, ⟨hv, hn⟩ | ⟨g, cap, cur, hv, _⟩⟩ := h
  · exact absurd (List.eq_nil_of_length_eq_zero hn) hl
  · have hb : v.ownBlock = some g := by rw [hv]; rfl
    exact ⟨g, hb, World.ownsRow.lt h0 g hb⟩
theorem OwnI.keep {w w' : World} {B : Nat} {v : Value} {l : List Nat} (h : OwnI w B v l) (hb : ∀ g, v.ownBlock = some g → w'.heap[g]? = w.heap[g]?) : OwnI w' B v l := by
  obtain ⟨h1, h2⟩ := h
  refine ⟨h1, ?_⟩
  rcases h2 with h2 | ⟨g, cap, cur, hv, hg, hh, r⟩
  · exact Or.inl h2
  · exact Or.inr ⟨g, cap, cur, hv, hg, (hb g (by rw [hv]; rfl)).trans hh, r⟩

theorem Grp.get {w : World} {B : Nat} {m : List (ByteArray × Value)} {h : List (ByteArray × List Nat)} (x : ByteArray) (hg : Grp w B m h) :
    (mget m x = none ∧ hget h x = []) ∨ ∃ v, mget m x = some v ∧ OwnI w B v (hget h x) ∧ hget h x ≠ [] := by
  induction m generalizing h with
  | nil =>
    cases h with
    | nil => exact Or.inl ⟨rfl, rfl⟩
    | cons q h => cases hg
  | cons p m ih =>
    cases h with
    | nil => cases hg
    | cons q h =>
      obtain ⟨h1, h2, h3, _, h5⟩ := hg
      by_cases e : p.1 = x
      · right
        refine ⟨p.2, by simp [mget, e], ?_, ?_⟩
        · rw [hget, if_pos (by rw [← h1]; exact e)]; exact h2
        · rw [hget, if_pos (by rw [← h1]; exact e)]; exact h3
      · have e2 : ¬ q.1 = x := by rw [← h1]; exact e
        rw [mget, if_neg e, hget, if_neg e2]
        exact ih h5
theorem Grp.len {w : World} {B : Nat} {m : List (ByteArray × Value)} {h : List (ByteArray × List Nat)} (hg : Grp w B m h) : m.length = h.length := by
  induction m generalizing h with
  | nil =>
    cases h with
    | nil => rfl
    | cons q h => cases hg
  | cons p m ih =>
    cases h with
    | nil => cases hg
    | cons q h => simp only [List.length_cons]; rw [ih hg.2.2.2.2]
/-- Whose row lies where. -/
theorem Grp.mem {w : World} {B : Nat} {m : List (ByteArray × Value)} {h : List (ByteArray × List Nat)} (hg : Grp w B m h) : ∀ p ∈ m, ∃ g, p.2.ownBlock = some g ∧ B ≤ g ∧ g < w.heap.size := by
  induction m generalizing h with
  | nil => intro p hp; cases hp
  | cons p m ih =>
    cases h with
    | nil => cases hg
    | cons q h =>
      intro r hr
      rcases List.mem_cons.1 hr with rfl | hr
      · exact hg.2.1.block hg.2.2.1
      · exact ih hg.2.2.2.2 r hr
/-- An entry at another key has its row elsewhere. -/
theorem Grp.apart {w : World} {B : Nat} {m : List (ByteArray × Value)} {h : List (ByteArray × List Nat)} (hg : Grp w B m h) {x : ByteArray} {v : Value} (hv : mget m x = some v) : ∀ p ∈ m, p.1 ≠ x → p.2.ownBlock ≠ v.ownBlock := by
  induction m generalizing h with
  | nil => intro p hp; cases hp
  | cons p m ih =>
    cases h with
    | nil => cases hg
    | cons q h =>
      obtain ⟨_, _, _, h4, h5⟩ := hg
      intro r hr hne
      by_cases e : p.1 = x
      · rw [mget, if_pos e] at hv
        cases hv
        rcases List.mem_cons.1 hr with rfl | hr
        · exact absurd e hne
        · exact (h4 r hr).2
      · rw [mget, if_neg e] at hv
        rcases List.mem_cons.1 hr with rfl | hr
        · -- the entry at x lies among m
          have : ∀ (l : List (ByteArray × Value)), mget l x = some v → ∃ y ∈ l, y.2 = v := by
            intro l
            induction l with
            | nil => intro h; cases h
            | cons z l ihl =>
              intro hl
              by_cases ez : z.1 = x
              · rw [mget, if_pos ez] at hl; cases hl; exact ⟨z, by simp, rfl⟩
              · rw [mget, if_neg ez] at hl
                obtain ⟨y, hy, e⟩ := ihl hl
                exact ⟨y, List.mem_cons_of_mem _ hy, e⟩
          obtain ⟨y, hy, rfl⟩ := this m hv
          exact fun e => (h4 y hy).2 e.symm
        · exact ih h5 hv r hr hne
theorem Grp.keep {w w' : World} {B : Nat} {m : List (ByteArray × Value)} {h : List (ByteArray × List Nat)} (hg : Grp w B m h) (hb : ∀ p ∈ m, ∀ g, p.2.ownBlock = some g → w'.heap[g]? = w.heap[g]?) : Grp w' B m h := by
  induction m generalizing h with
  | nil =>
    cases h with
    | nil => trivial
    | cons q h => cases hg
  | cons p m ih =>
    cases h with
    | nil => cases hg
    | cons q h =>
      obtain ⟨h1, h2, h3, h4, h5⟩ := hg
      exact ⟨h1, h2.keep (hb p (by simp)), h3, h4, ih h5 (fun r hr => hb r (List.mem_cons_of_mem _ hr))⟩
theorem mput_mem {m : List (ByteArray × Value)} {s : ByteArray} {v : Value} {r : ByteArray × Value} (h : r ∈ mput m s v) : r = (s, v) ∨ (r ∈ m) := by
  induction m with
  | nil => left; simpa [mput] using h
  | cons p m ih =>
    unfold mput at h
    by_cases e : p.1 = s
    · rw [if_pos e] at h
      rcases List.mem_cons.1 h with h | h
      · exact Or.inl h
      · exact Or.inr (List.mem_cons_of_mem _ h)
    · rw [if_neg e] at h
      rcases List.mem_cons.1 h with h | h
      · right; rw [h]; simp
      · rcases ih h with h | h
        · exact Or.inl h
        · exact Or.inr (List.mem_cons_of_mem _ h)
/-- The store. -/
theorem Grp.put {w w' : World} {B : Nat} {m : List (ByteArray × Value)} {h : List (ByteArray × List Nat)} {s : ByteArray} {v : Value} {l : List Nat} (hg : Grp w B m h)
    (hb : ∀ p ∈ m, p.1 ≠ s → ∀ g, p.2.ownBlock = some g → w'.heap[g]? = w.heap[g]?) (hv : OwnI w' B v l) (hl : l ≠ []) (hd : ∀ p ∈ m, p.1 ≠ s → p.2.ownBlock ≠ v.ownBlock) : Grp w' B (mput m s v) (hput h s l) := by
  induction m generalizing h with
  | nil =>
    cases h with
    | nil => exact ⟨rfl, hv, hl, (fun r hr => by cases hr), trivial⟩
    | cons q h => cases hg
  | cons p m ih =>
    cases h with
    | nil => cases hg
    | cons q h =>
      obtain ⟨h1, h2, h3, h4, h5⟩ := hg
      unfold mput hput
      by_cases e : p.1 = s
      · have e2 : q.1 = s := by rw [← h1]; exact e
        rw [if_pos e, if_pos e2]
        refine ⟨rfl, hv, hl, fun r hr => ?_, h5.keep (fun r hr g hgb => hb r (List.mem_cons_of_mem _ hr) ?_ g hgb)⟩
        · have hne : r.1 ≠ s := fun h => (h4 r hr).1 (h.trans e.symm)
          exact ⟨hne, hd r (List.mem_cons_of_mem _ hr) hne⟩
        · exact fun h => (h4 r hr).1 (h.trans e.symm)
      · have e2 : ¬ q.1 = s := by rw [← h1]; exact e
        rw [if_neg e, if_neg e2]
        refine ⟨h1, h2.keep (hb p (by simp) e), h3, fun r hr => ?_, ih h5 (fun r hr => hb r (List.mem_cons_of_mem _ hr)) (fun r hr => hd r (List.mem_cons_of_mem _ hr))⟩
        rcases mput_mem hr with rfl | hr
        · exact ⟨fun h => e h.symm, fun h => hd p (by simp) e h.symm⟩
        · exact h4 r hr

/-! ### Laws for the walk -/
theorem zero32 (w : World) : (zeroValue 32).run Try.prog w = .ok (.slice none 0 0) w := by
  have hi : (Try.prog.info? 32).map (fun i => (i.zero, i.size, i.bytes)) = some (some (.slice none 0 0), 1, 24) := by kernel_rfl
  obtain ⟨i0, hi, hz0, hz1, hz2⟩ := info_parts hi
  simp [zeroValue, typeInfo, hi, hz0]

theorem wpList_put (w : World) {ops : Array Oper} {rest : List Oper} {o : Oper} {a : Act} {Q : Exit → Act → World → Prop} (hg : o.guard = none) (m x v : Operand) (t : TypeId) (hop : o.op = Op.mapUpdate t m x v)
    (k e : TypeId) (ht : Try.prog.underlying t = some (.map k e)) (hk : Try.prog.underlying k = some .string) (b : Nat) (mm : List (ByteArray × Value)) (hm : a.eval m = .map (some b)) (h : MapIs w b mm) (s : ByteArray) (hx : a.eval x = .string s) (val : Value) (hv : a.eval v = val)
    (hK : ∀ w', MapIs w' b (mput mm s val) → w.grownBy w' (some b) → w'.heap.size = w.heap.size → wpList Try.prog ops Q rest (a.put o.dst undef) w') : wpList Try.prog ops Q (o :: rest) a w := by
  refine wpList_plain hg fun K' hK' => ?_
  obtain ⟨w', hrun, r1, r2, r3, r4, r5, r6⟩ := h.put ht hk s val
  unfold Oper.wp
  simp [execOp, hop, hm, hx, hv, hrun, Result.andThen]
  exact hK' _ _ (hK w' r1 ⟨r4, r5, r6, by omega, fun i _ hne => r2 i (fun e => hne (by rw [e]))⟩ r3)
end Go.Proofs.Qxb6617226a
