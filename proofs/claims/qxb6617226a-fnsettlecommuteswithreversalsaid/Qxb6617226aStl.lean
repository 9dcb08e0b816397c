/- Plain and worlds: what the two loops of settle do to the row of claims. -/
import Derived.Test.Qxb6617226aAft
import Derived.Test.Qxb6617226aHigh
import Derived.Test.Qxb6617226aRg
namespace Go.Proofs.Qxb6617226a
open Go.RowKit

/-- Claim i is renamed, and its name's group has come. -/
def T (cs : List Cm) (S : ByteArray → Bool) (i : Nat) : Bool := S (cat cs i).name && rn cs i

theorem T_none (cs : List Cm) : ren cs (T cs fun _ => false) = cs := ren_none _ _ fun i _ => by simp [T]
theorem T_all (cs : List Cm) (S : ByteArray → Bool) (h : ∀ i, i < cs.length → S (cat cs i).name = true) : ren cs (T cs S) = ren cs (rn cs) := ren_congr _ fun i hi => by simp [T, h i hi]
theorem T_skip (cs : List Cm) (S : ByteArray → Bool) (s : ByteArray) (h : pick cs (top (names cs) (rks cs) s cs.length) = none) : ren cs (T cs fun x => S x || decide (x = s)) = ren cs (T cs S) := by
  refine ren_congr _ fun i _ => ?_
  unfold T
  by_cases e : (cat cs i).name = s
  · have : rn cs i = false := by unfold rn; rw [e, h]; simp
    rw [this]; simp
  · simp [e]
theorem T_hit (cs : List Cm) (S : ByteArray → Bool) (s : ByteArray) (i : Nat) (h : pick cs (top (names cs) (rks cs) s cs.length) = some i) (hs : S s = false) :
    i < cs.length ∧ cat (ren cs (T cs S)) i = cat cs i ∧ ∀ j, j < cs.length → cat (ren cs (T cs fun x => S x || decide (x = s))) j = if j = i then suffixed (cat cs i) else cat (ren cs (T cs S)) j := by
  obtain ⟨h1, h2, _⟩ := top_rank _ _ _ _ _ (pick_mem h)
  rw [names_at] at h2
  refine ⟨h1, ?_, fun j hj => ?_⟩
  · rw [ren_at _ h1]
    have : T cs S i = false := by unfold T; rw [h2, hs]; rfl
    rw [this]; rfl
  · rw [ren_at _ hj]
    by_cases e : j = i
    · subst e
      have h3 : rn cs j = true := by unfold rn; rw [h2]; exact decide_eq_true h
      have : T cs (fun x => S x || decide (x = s)) j = true := by unfold T; rw [h2, h3]; simp
      rw [this, if_pos rfl, if_pos rfl]
    · rw [if_neg e, ren_at _ hj]
      have : T cs (fun x => S x || decide (x = s)) j = T cs S j := by
        unfold T
        by_cases e2 : (cat cs j).name = s
        · have : rn cs j = false := by
            unfold rn; rw [e2, h]
            exact decide_eq_false (fun h => e (Option.some.inj h).symm)
          rw [this]; simp
        · simp [e2]
      rw [this]
theorem ren_cst (cs : List Cm) (S : Nat → Bool) (i : Nat) : (cat (ren cs S) i).cst = (cat cs i).cst := by
  by_cases h : i < cs.length
  · rw [ren_at _ h]; split <;> rfl
  · rw [cat_out h, cat_out (by rw [ren_len]; exact h)]

theorem ccell_name {w : World} {g n i : Nat} {cs cs' : List Cm} {F : Nat → Value} {s : ByteArray} (h : w.rowIs g 39 (n * 5) (ccell cs F n)) (hc : ∀ j, j < n → cat cs' j = if j = i then { cat cs i with name := s } else cat cs j) :
    (w.setCell ⟨g, i * 5, none⟩ (.string s)).rowIs g 39 (n * 5) (ccell cs' F n) := by
  refine (h.set (i * 5) _).congr fun x hx => ?_
  have hx5 : x / 5 < n := by omega
  unfold ccell
  rw [if_pos hx, if_pos hx, hc _ hx5]
  by_cases e : x = i * 5
  · subst e
    rw [if_pos rfl, show i * 5 / 5 = i from by omega, show i * 5 % 5 = 0 from by omega, if_pos rfl]
    rfl
  · rw [if_neg e]
    by_cases e2 : x / 5 = i
    · have hm : x % 5 = 1 ∨ x % 5 = 2 ∨ x % 5 = 3 ∨ x % 5 = 4 := by omega
      rw [if_pos e2, e2]
      rcases hm with hm | hm | hm | hm <;> rw [hm] <;> rfl
    · rw [if_neg e2]
theorem ccell_riv {w : World} {g n i : Nat} {cs cs' : List Cm} {F : Nat → Value} {v : Value} {l : List ByteArray} (h : w.rowIs g 39 (n * 5) (ccell cs F n)) (hc : ∀ j, j < n → cat cs' j = if j = i then withR (cat cs i) l else cat cs j) :
    (w.setCell ⟨g, i * 5 + 4, none⟩ v).rowIs g 39 (n * 5) (ccell cs' (upd F i v) n) := by
  refine (h.set (i * 5 + 4) _).congr fun x hx => ?_
  have hx5 : x / 5 < n := by omega
  unfold ccell
  rw [if_pos hx, if_pos hx, hc _ hx5]
  by_cases e : x = i * 5 + 4
  · subst e
    rw [if_pos rfl, show (i * 5 + 4) / 5 = i from by omega, show (i * 5 + 4) % 5 = 4 from by omega, if_pos rfl, upd, if_pos rfl]
    rfl
  · rw [if_neg e]
    by_cases e2 : x / 5 = i
    · have hm : x % 5 = 0 ∨ x % 5 = 1 ∨ x % 5 = 2 ∨ x % 5 = 3 := by omega
      rw [if_pos e2, e2]
      rcases hm with hm | hm | hm | hm <;> rw [hm] <;> rfl
    · rw [if_neg e2, upd, if_neg e2]

/-- An entry's row is its name's group. -/
theorem Grp.at {w : World} {B : Nat} {m : List (ByteArray × Value)} {h : List (ByteArray × List Nat)} (hg : Grp w B m h) : ∀ p ∈ m, OwnI w B p.2 (hget h p.1) := by
  induction m generalizing h with
  | nil => intro p hp; cases hp
  | cons q m ih =>
    cases h with
    | nil => cases hg
    | cons r h =>
      obtain ⟨h1, h2, h3, h4, h5⟩ := hg
      intro p hp
      rcases List.mem_cons.1 hp with rfl | hp
      · rw [hget, if_pos h1.symm]; exact h2
      · have : ¬ r.1 = p.1 := fun e => (h4 p hp).1 (by rw [h1, e])
        rw [hget, if_neg this]; exact ih h5 p hp
theorem Grp.key {w : World} {B : Nat} {m : List (ByteArray × Value)} {h : List (ByteArray × List Nat)} (hg : Grp w B m h) {x : ByteArray} (hx : hget h x ≠ []) : ∃ p ∈ m, p.1 = x := by
  induction m generalizing h with
  | nil =>
    cases h with
    | nil => exact absurd rfl hx
    | cons q h => cases hg
  | cons q m ih =>
    cases h with
    | nil => cases hg
    | cons r h =>
      obtain ⟨h1, h2, h3, h4, h5⟩ := hg
      by_cases e : r.1 = x
      · exact ⟨q, by simp, by rw [h1, e]⟩
      · rw [hget, if_neg e] at hx
        obtain ⟨p, hp, e⟩ := ih h5 hx
        exact ⟨p, List.mem_cons_of_mem _ hp, e⟩
theorem all_came {w : World} {B : Nat} {m : List (ByteArray × Value)} {cs : List Cm} {S : ByteArray → Bool} (hg : Grp w B m (hi (names cs) (rks cs) cs.length)) (hS : ∀ p ∈ m, S p.1 = true) : ∀ i, i < cs.length → S (cat cs i).name = true := by
  intro i hi'
  obtain ⟨p, hp, e⟩ := hg.key (x := (cat cs i).name) (by
    rw [hi_get]
    intro h
    exact (top_nil_iff _ _ _ _).1 h i hi' (names_at cs i))
  rw [← e]; exact hS p hp

def rleft (w : World) (b r : Nat) : Nat :=
  match w.heap[b]?, w.heap[r]? with
  | some (.map es _), some (.mapIter _ _ seen _) => (leftOf es seen).size
  | _, _ => 0
theorem Rg.left {w : World} {b r : Nat} {m : List (ByteArray × Value)} {S : ByteArray → Bool} {cnt : Nat} (h : Rg w b r m S cnt) : rleft w b r = cnt := by
  obtain ⟨es, clock, since, c0, seen, a1, _, _, a4, _, _, _, _, a8⟩ := h
  unfold rleft
  rw [a1, a4]
  exact a8

/-- What the second loop leaves as it was: all but the row and the rivals' own blocks. -/
structure Fr (w0 w : World) (g : Nat) (F : Nat → Value) (n : Nat) (F1 : Nat → Value) : Prop where
  os : w.os = w0.os
  tape : w.tape = w0.tape
  output : w.output = w0.output
  size : w0.heap.size ≤ w.heap.size
  block : ∀ b, b < w0.heap.size → b ≠ g → (∀ i, i < n → (F i).ownBlock ≠ some b) → w.heap[b]? = w0.heap[b]?
  own : ∀ i, i < n → ∀ b, (F1 i).ownBlock = some b → (F i).ownBlock = some b ∨ w0.heap.size ≤ b
theorem Fr.refl (w : World) (g : Nat) (F : Nat → Value) (n : Nat) : Fr w w g F n F := ⟨rfl, rfl, rfl, Nat.le_refl _, fun _ _ _ _ => rfl, fun _ _ _ h => Or.inl h⟩
theorem Fr.after {w0 w w' : World} {g n : Nat} {F F1 : Nat → Value} (h : Fr w0 w g F n F1) (hb : Below w.heap.size w w') : Fr w0 w' g F n F1 :=
  ⟨hb.os.trans h.os, hb.tape.trans h.tape, hb.output.trans h.output, Nat.le_trans h.size hb.size, fun b h1 h2 h3 => (hb.block b (Nat.lt_of_lt_of_le h1 h.size)).trans (h.block b h1 h2 h3), h.own⟩
theorem Fr.grown {w0 w w' : World} {g n : Nat} {F F1 : Nat → Value} {row : Option Nat} (h : Fr w0 w g F n F1) (hg : w.grownBy w' row) (hr : ∀ b, row = some b → w0.heap.size ≤ b ∨ b = g ∨ ∃ i, i < n ∧ (F i).ownBlock = some b) : Fr w0 w' g F n F1 :=
  ⟨hg.os.trans h.os, hg.tape.trans h.tape, hg.output.trans h.output, Nat.le_trans h.size hg.size, fun b h1 h2 h3 => by
    refine (hg.block b (Nat.lt_of_lt_of_le h1 h.size) (fun e => ?_)).trans (h.block b h1 h2 h3)
    rcases hr b e.symm with h | h | ⟨i, hi, h⟩
    · omega
    · exact h2 h
    · exact h3 i hi h, h.own⟩

theorem grown_setCell (w : World) (g o : Nat) (v : Value) : w.grownBy (w.setCell ⟨g, o, none⟩ v) (some g) := by
  have h : Below g w (w.setCell ⟨g, o, none⟩ v) := (Below.refl g w).setCell (p := ⟨g, o, none⟩) (Nat.le_refl _) v
  exact ⟨h.os, h.tape, h.output, h.size, fun i _ hne => Below.heap_setCell _ _ _ _ (fun e => hne (by rw [e]))⟩

/-- One rival more. -/
theorem riv_step {w0 wA W w2 : World} {g n k : Nat} {F F1 : Nat → Value} {cs1 cs2 : List Cm} {v' : Value} {s : ByteArray} {len : Nat} (hf : Fr w0 wA g F n F1) (hrow : wA.rowIs g 39 (n * 5) (ccell cs1 F1 n)) (hriv : Riv wA (g + 1) cs1 F1 n) (hk : k < n)
    (hW : Below wA.heap.size wA W) (hWs : wA.heap.size ≤ W.heap.size) (hlen : (cat cs1 k).rivals.length = len)
    (hown' : w2.ownsRow (g + 1) 9 1 v' (len + 1) ((cat cs1 k).rivals.map Value.string ++ [.string s])) (hgrow : W.grownBy w2 (F1 k).ownBlock) (hat : v'.ownBlock = (F1 k).ownBlock ∨ v'.ownBlock = some W.heap.size)
    (hc : ∀ j, j < n → cat cs2 j = if j = k then withR (cat cs1 k) [s] else cat cs1 j) :
    (w2.cell? ⟨g, k * 5 + 4, none⟩ = some (F1 k) ∧ w2.frozen? ⟨g, k * 5 + 4, none⟩ = false ∧ ∀ j, j < n → w2.cell? ⟨g, j * 5 + 1, none⟩ = some (.string (cat cs1 j).owner)) ∧
    Hid (Fr w0 (w2.setCell ⟨g, k * 5 + 4, none⟩ v') g F n (upd F1 k v') ∧ (w2.setCell ⟨g, k * 5 + 4, none⟩ v').rowIs g 39 (n * 5) (ccell cs2 (upd F1 k v') n) ∧ Riv (w2.setCell ⟨g, k * 5 + 4, none⟩ v') (g + 1) cs2 (upd F1 k v') n) := by
  subst hlen
  have hgA : g < wA.heap.size := hrow.lt
  have hs2 := hgrow.size
  have hne : ∀ i, i < n → (F1 i).ownBlock ≠ some g := fun i hi e => by
    have := (World.ownsRow.lt (hriv.1 i hi) g e).1
    omega
  have hrow2 : w2.rowIs g 39 (n * 5) (ccell cs1 F1 n) := (hrow.of_block (hW.block _ hgA)).of_block (hgrow.block g (by omega) (fun e => hne k hk e.symm))
  have hfW : Fr w0 W g F n F1 := hf.after hW
  have hf2 : Fr w0 w2 g F n F1 := hfW.grown hgrow (fun b e => by
    rcases hf.own k hk b e with h | h
    · exact Or.inr (Or.inr ⟨k, hk, h⟩)
    · exact Or.inl h)
  have hf3 : Fr w0 (w2.setCell ⟨g, k * 5 + 4, none⟩ v') g F n F1 := hf2.grown (grown_setCell _ _ _ _) (fun b e => Or.inr (Or.inl (Option.some.inj e).symm))
  have old : ∀ i, i < n → i ≠ k → ∀ b, (F1 i).ownBlock = some b → (w2.setCell ⟨g, k * 5 + 4, none⟩ v').heap[b]? = wA.heap[b]? := by
    intro i hi hik b hb
    have hlt := (World.ownsRow.lt (hriv.1 i hi) b hb)
    rw [Below.heap_setCell _ _ _ _ (show b ≠ g from by omega), hgrow.block b (by omega) (fun e => ?_), hW.block b hlt.2]
    rcases hriv.2 i k hi hk hik with h | h
    · rw [hb] at h; cases h
    · exact h (by rw [hb, e])
  refine ⟨⟨?_, hrow2.frozen _, fun j hj => ?_⟩, ⟨hf3.os, hf3.tape, hf3.output, hf3.size, hf3.block, fun i hi b hb => ?_⟩, ccell_riv hrow2 hc, fun i hi => ?_, fun i j hi hj hij => ?_⟩
  · exact claim_cell hrow2 hk 4 (by decide) rfl rfl
  · exact claim_cell hrow2 hj 1 (by decide) rfl rfl
  · unfold upd at hb
    by_cases e : i = k
    · subst e
      rw [if_pos rfl] at hb
      rcases hat with h | h
      · rw [h] at hb; exact hf.own i hi b hb
      · rw [h] at hb
        have := Option.some.inj hb
        have := hf.size
        omega
    · rw [if_neg e] at hb; exact hf.own i hi b hb
  · rw [hc i hi]
    unfold upd
    by_cases e : i = k
    · subst e
      rw [if_pos rfl, if_pos rfl]
      have h2 : OwnS w2 (g + 1) v' ((cat cs1 i).rivals ++ [s]) := OwnS.snoc hown'
      have h3 : OwnS (w2.setCell ⟨g, i * 5 + 4, none⟩ v') (g + 1) v' ((cat cs1 i).rivals ++ [s]) := h2.move (Nat.le_refl _) (fun b hb _ => Below.heap_setCell _ _ _ _ (show b ≠ g from by omega))
      exact h3
    · rw [if_neg e, if_neg e]
      obtain ⟨h1, h2⟩ := hriv.1 i hi
      refine ⟨h1, ?_⟩
      rcases h2 with h2 | ⟨x, cap, cur, hv, hg, hh, r⟩
      · exact Or.inl h2
      · exact Or.inr ⟨x, cap, cur, hv, hg, (old i hi e x (by rw [hv]; rfl)).trans hh, r⟩
  · unfold upd
    have new : ∀ q, q < n → q ≠ k → (F1 q).ownBlock = none ∨ (F1 q).ownBlock ≠ v'.ownBlock := by
      intro q hq hqk
      rcases hat with h | h
      · rw [h]; exact hriv.2 q k hq hk hqk
      · rw [h]
        right
        intro e
        have := (World.ownsRow.lt (hriv.1 q hq) _ e).2
        omega
    by_cases e : i = k
    · subst e
      rw [if_pos rfl, if_neg (fun h => hij h.symm)]
      cases hv : v'.ownBlock with
      | none => exact Or.inl rfl
      | some x =>
        right
        rcases new j hj (fun h => hij h.symm) with h | h
        · rw [h]; simp
        · rw [← hv]; exact fun e => h e.symm
    · rw [if_neg e]
      by_cases e2 : j = k
      · subst e2
        rw [if_pos rfl]
        exact new i hi hij
      · rw [if_neg e2]
        exact hriv.2 i j hi hj hij

theorem Fr.trans {w0 w1 w : World} {g n : Nat} {F F1 : Nat → Value} (h : Fr w0 w1 g F n F) (k : Fr w1 w g F n F1) : Fr w0 w g F n F1 :=
  ⟨k.os.trans h.os, k.tape.trans h.tape, k.output.trans h.output, Nat.le_trans h.size k.size, fun b h1 h2 h3 => (k.block b (Nat.lt_of_lt_of_le h1 h.size) h2 h3).trans (h.block b h1 h2 h3), fun i hi b hb => (k.own i hi b hb).imp id (fun h' => Nat.le_trans h.size h')⟩
theorem Fr.of_grown {w w' : World} {g n : Nat} {F : Nat → Value} (h : w.grownBy w' (some g)) : Fr w w' g F n F := (Fr.refl w g F n).grown h (fun _ e => Or.inr (Or.inl (Option.some.inj e).symm))
theorem Riv.same {w w' : World} {B : Nat} {cs cs' : List Cm} {F : Nat → Value} {n : Nat} (h : Riv w B cs F n) (hb : ∀ b, B ≤ b → b < w.heap.size → w'.heap[b]? = w.heap[b]?) (hc : ∀ i, i < n → (cat cs' i).rivals = (cat cs i).rivals) : Riv w' B cs' F n :=
  ⟨fun i hi => by rw [hc i hi]; exact (h.kept hb).1 i hi, h.2⟩
theorem ren_riv (cs : List Cm) (S : Nat → Bool) (i : Nat) : (cat (ren cs S) i).rivals = (cat cs i).rivals := by
  by_cases h : i < cs.length
  · rw [ren_at _ h]; split <;> rfl
  · rw [cat_out h, cat_out (by rw [ren_len]; exact h)]
theorem ren_rank (cs : List Cm) (S : Nat → Bool) (i : Nat) : (cat (ren cs S) i).rank = (cat cs i).rank := by
  by_cases h : i < cs.length
  · rw [ren_at _ h]; split <;> rfl
  · rw [cat_out h, cat_out (by rw [ren_len]; exact h)]

/-- What a look-up gives in every world that leaves the blocks from lo on as they were. -/
theorem Grp.far {w : World} {B b lo : Nat} {m : List (ByteArray × Value)} {h : List (ByteArray × List Nat)} (hm : MapIs w b m) (hg : Grp w B m h) (h1 : lo ≤ b) (h2 : lo ≤ B) (x : ByteArray) :
    ∃ a c, ∀ w' : World, (∀ y, lo ≤ y → y < w.heap.size → w'.heap[y]? = w.heap[y]?) → IRow w' a (hget h x) ∧ (Instr.lookup 26 (.map (some b)) (.string x) false).run Try.prog w' = .ok (.slice a (hget h x).length c) w' := by
  rcases hg.get x with ⟨h3, h4⟩ | ⟨v, h3, h4, _⟩
  · refine ⟨none, 0, fun w' hb => ⟨?_, ?_⟩⟩
    · rw [h4]; intro j hj; exact absurd hj (Nat.not_lt_zero _)
    · have := (hm.of_block (hb b h1 hm.lt)).look (P := Try.prog) (t := 26) (k := 9) (e := 32) Try.underlying26 Try.underlying9 (zero32 _) x
      rw [h3] at this
      rw [h4]; exact this
  · obtain ⟨a, c, hv, _, _⟩ := h4.row
    refine ⟨a, c, fun w' hb => ⟨?_, ?_⟩⟩
    · have hk : OwnI w' B v (hget h x) := h4.keep (fun y hy => by
        have := World.ownsRow.lt h4 y hy
        exact hb y (by omega) this.2)
      obtain ⟨a', c', hv', hr, _⟩ := hk.row
      rw [hv] at hv'
      cases hv'
      exact hr
    · have := (hm.of_block (hb b h1 hm.lt)).look (P := Try.prog) (t := 26) (k := 9) (e := 32) Try.underlying26 Try.underlying9 (zero32 _) x
      rw [h3, hv] at this
      exact this
/-- The blocks that the second loop leaves: those laid behind the claims. -/
theorem Fr.high {w w0 wA : World} {g n : Nat} {F F1 : Nat → Value} (h : Fr w0 wA g F n F1) (hg : g < w.heap.size) (hF : ∀ i, i < n → ∀ b, (F i).ownBlock = some b → b < w.heap.size) : ∀ y, w.heap.size ≤ y → y < w0.heap.size → wA.heap[y]? = w0.heap[y]? := fun y h1 h2 =>
  h.block y h2 (by omega) (fun i hi e => by have := hF i hi y e; omega)

theorem wpList_next_rg (w : World) {P : Program} {ops : Array Oper} {rest : List Oper} {o : Oper} {a : Act} {Q : Exit → Act → World → Prop} (hg : o.guard = none) (it : Operand) (hop : o.op = Op.next it false)
    (b r : Nat) (m : List (ByteArray × Value)) (S : ByteArray → Bool) (cnt : Nat) (hit : a.eval it = .pointer (some ⟨r, 0, none⟩)) (h : Rg w b r m S cnt)
    (hDone : (∀ p ∈ m, S p.1 = true) → wpList P ops Q rest (a.put o.dst (.tuple #[.bool false])) w)
    (hMore : ∀ (s : ByteArray) (v : Value) (w' : World) (cnt' : Nat), (s, v) ∈ m → S s = false → (Instr.entry (.pointer (some ⟨r, 0, none⟩))).run P w' = .ok (.tuple #[.string s, v]) w' → Rg w' b r m (fun x => S x || decide (x = s)) cnt' → cnt' < cnt → w.grownBy w' (some r) → w'.heap.size = w.heap.size →
      wpList P ops Q rest (a.put o.dst (.tuple #[.bool true, .string s, v])) w') :
    wpList P ops Q (o :: rest) a w := by
  refine wpList_plain hg fun K' hK' => ?_
  unfold Oper.wp
  rcases h.next (P := P) o.type with ⟨h1, hrun⟩ | ⟨⟨s, v⟩, hp, hS, w', cnt', hrun, hen, hr, hlt, hgr, hsz⟩
  · simp [execOp, hop, hit, hrun, Result.andThen]
    exact hK' _ _ (hDone h1)
  · simp [execOp, hop, hit, hrun, Result.andThen]
    exact hK' _ _ (hMore s v w' cnt' hp hS hen hr hlt hgr hsz)

/-- Behind a round that renames. -/
theorem pick_step {wH wB : World} {b r g n i cnt : Nat} {m : List (ByteArray × Value)} {cs : List Cm} {F : Nat → Value} {S : ByteArray → Bool} {s : ByteArray} (hn : cs.length = n) (hgb : g ≠ b) (hgr : g ≠ r) (hR : Rg wB b r m (fun x => S x || decide (x = s)) cnt) (hG : wH.grownBy wB (some g)) (hrow : wB.rowIs g 39 (n * 5) (ccell (ren cs (T cs S)) F n))
    (hp : pick cs (top (names cs) (rks cs) s n) = some i) (hS : S s = false) (q : Nat) :
    Hid (Rg ((wB.drewN q).setCell ⟨g, i * 5, none⟩ (.string ((cat cs i).name ++ suf))) b r m (fun x => S x || decide (x = s)) cnt) ∧ Hid (wH.grownBy ((wB.drewN q).setCell ⟨g, i * 5, none⟩ (.string ((cat cs i).name ++ suf))) (some g)) ∧
    Hid (((wB.drewN q).setCell ⟨g, i * 5, none⟩ (.string ((cat cs i).name ++ suf))).rowIs g 39 (n * 5) (ccell (ren cs (T cs fun x => S x || decide (x = s))) F n)) := by
  subst hn
  obtain ⟨h1, h2, h3⟩ := T_hit cs S s i hp hS
  refine ⟨hR.kept (Below.heap_setCell _ _ _ _ (fun e => hgb e.symm)) (Below.heap_setCell _ _ _ _ (fun e => hgr e.symm)), ?_, ccell_name (w := wB.drewN q) (hrow.of_block rfl) (fun j hj => ?_)⟩
  · have k : (wB.drewN q).grownBy ((wB.drewN q).setCell ⟨g, i * 5, none⟩ (.string ((cat cs i).name ++ suf))) (some g) := grown_setCell _ _ _ _
    exact ⟨k.os.trans hG.os, k.tape.trans hG.tape, k.output.trans hG.output, Nat.le_trans hG.size k.size, fun x hx hne => (k.block x (Nat.lt_of_lt_of_le hx hG.size) hne).trans (hG.block x hx hne)⟩
  · rw [h3 j hj, h2]; rfl
theorem skip_step {wH wB : World} {b r g n cnt : Nat} {m : List (ByteArray × Value)} {cs : List Cm} {F : Nat → Value} {S : ByteArray → Bool} {s : ByteArray} (hn : cs.length = n) (hR : Rg wB b r m (fun x => S x || decide (x = s)) cnt) (hG : wH.grownBy wB (some g)) (hrow : wB.rowIs g 39 (n * 5) (ccell (ren cs (T cs S)) F n))
    (hp : pick cs (top (names cs) (rks cs) s n) = none) (q : Nat) :
    Hid (Rg (wB.drewN q) b r m (fun x => S x || decide (x = s)) cnt) ∧ Hid (wH.grownBy (wB.drewN q) (some g)) ∧
    Hid ((wB.drewN q).rowIs g 39 (n * 5) (ccell (ren cs (T cs fun x => S x || decide (x = s))) F n)) := by
  subst hn
  refine ⟨hR.kept rfl rfl, ⟨hG.os, hG.tape, hG.output, hG.size, hG.block⟩, ?_⟩
  show World.rowIs _ _ _ _ _
  rw [T_skip cs S s hp]
  exact hrow.of_block rfl

theorem stl_at {cs : List Cm} {k i : Nat} (h : i < cs.length) : cat (stl cs k) i = if i < k then withR (cat (ren cs (rn cs)) i) (own cs i (grp cs i)) else cat (ren cs (rn cs)) i := mk_at _ h
theorem stlI_at {cs : List Cm} {k i : Nat} {x : List ByteArray} (h : i < cs.length) : cat (stlI cs k x) i = if i = k then withR (cat (stl cs k) i) x else cat (stl cs k) i := mk_at _ h
theorem stl_owner {cs : List Cm} {k i : Nat} (h : i < cs.length) : (cat (stl cs k) i).owner = (cat cs i).owner := by
  rw [stl_at h, ren_at _ h]
  split <;> split <;> rfl
theorem stlI_owner {cs : List Cm} {k i : Nat} {x : List ByteArray} (h : i < cs.length) : (cat (stlI cs k x) i).owner = (cat cs i).owner := by
  rw [stlI_at h, ← stl_owner (k := k) h]
  split <;> rfl
theorem stlI_rivals {cs : List Cm} {k : Nat} {x : List ByteArray} (h : k < cs.length) : (cat (stlI cs k x) k).rivals = (cat cs k).rivals ++ x := by
  rw [stlI_at h, if_pos rfl, stl_at h, if_neg (by omega)]
  show (cat (ren cs (rn cs)) k).rivals ++ x = _
  rw [ren_riv]
theorem stlI_snoc {cs : List Cm} {k n : Nat} {x : List ByteArray} {s : ByteArray} (hn : cs.length = n) (i : Nat) (h : i < n) (hk : k < n) : cat (stlI cs k (x ++ [s])) i = if i = k then withR (cat (stlI cs k x) k) [s] else cat (stlI cs k x) i := by
  subst hn
  rw [stlI_at h, stlI_at h, stlI_at hk, if_pos rfl]
  by_cases e : i = k
  · subst e
    rw [if_pos rfl, if_pos rfl]
    simp [withR]
  · rw [if_neg e, if_neg e, if_neg e]
theorem own_len (cs : List Cm) (i : Nat) (g : List Nat) : (own cs i g).length ≤ g.length := by
  unfold own
  rw [List.length_map]
  exact List.length_filter_le _ _
theorem nat_mem {l : List Nat} {t : Nat} (h : t < l.length) : nat l t ∈ l := by
  unfold nat
  rw [List.getD_eq_getElem?_getD, List.getElem?_eq_getElem h]
  exact List.getElem_mem h
theorem app_slice {w : World} {B e : Nat} {v : Value} {n : Nat} {xs : List Value} (h : w.ownsRow B e 1 v (n + 1) xs) : ∃ a c, v = .slice a (n + 1) c := by
  obtain ⟨h1, h2 | ⟨g, cap, cur, hv, _⟩⟩ := h
  · exact absurd h2.2 (by omega)
  · exact ⟨_, _, hv⟩
end Go.Proofs.Qxb6617226a
