/- namesOf, topIndexesBy, eqInts. -/
import Derived.Test.Qxb6617226aClm
import Derived.Test.Qxb6617226aTop
namespace Go.Proofs.Qxb6617226a
open Go.RowKit

def nat (l : List Nat) (j : Nat) : Nat := l.getD j 0
def IRow (w : World) (a : Option Addr) (l : List Nat) : Prop :=
  ∀ j, j < l.length → ∃ b off, a = some ⟨b, off, none⟩ ∧ w.cell? ⟨b, off + j, none⟩ = some (.int .i64 (nat l j))
theorem IRow.below {w w' : World} {a : Option Addr} {l : List Nat} (h : IRow w a l) (hb : Below w.heap.size w w') : IRow w' a l := by
  intro j hj
  obtain ⟨b, off, ha, hc⟩ := h j hj
  exact ⟨b, off, ha, cell_later hb hc⟩
theorem IRow.drewN {w : World} {a : Option Addr} {l : List Nat} (h : IRow w a l) (n : Nat) : IRow (w.drewN n) a l := h

def OwnI (w : World) (B : Nat) (v : Value) (l : List Nat) : Prop := w.ownsRow B 3 1 v l.length (l.map fun j : Nat => Value.int .i64 (j : Int))
theorem OwnI.snoc {w : World} {B : Nat} {v : Value} {l : List Nat} {j : Nat} (h : w.ownsRow B 3 1 v (l.length + 1) ((l.map fun j : Nat => Value.int .i64 (j : Int)) ++ [.int .i64 (j : Int)])) : OwnI w B v (l ++ [j]) := by
  unfold OwnI
  rw [List.length_append, List.map_append]
  exact h
theorem OwnI.row {w : World} {B : Nat} {v : Value} {l : List Nat} (h : OwnI w B v l) : ∃ a cap, v = .slice a l.length cap ∧ IRow w a l ∧ l.length ≤ cap := by
  have h0 := h
  obtain ⟨h1, h2 | ⟨g, cap, cur, hv, _, _, hc, _⟩⟩ := h
  · obtain ⟨hv, hn⟩ := h2
    exact ⟨none, 0, by rw [hv, hn], fun j hj => absurd hj (by omega), by omega⟩
  · refine ⟨_, cap, hv, ?_, hc⟩
    intro j hj
    have := World.ownsRow.cells h0 (g := g) (by rw [hv]; rfl) j (.int .i64 (nat l j)) (by
      unfold nat; simp [List.getD_eq_getElem?_getD, hj])
    exact ⟨g, 0, rfl, by rw [← Go.WideShapes.add_plain]; exact this⟩
theorem ownI_step {B : Nat} {w0 wr w1 : World} {v : Value} {l : List Nat} {o : Obj} (hb : Below B w0 wr) (hB : B ≤ wr.heap.size) (hown : OwnI wr B v l) (hg : (wr.alloc o).grownBy w1 v.ownBlock) :
    Below B w0 w1 :=
  (hb.alloc hB o).grown hg (by simp; omega) (fun k e => (World.ownsRow.lt hown k e).1)

set_option maxHeartbeats 400000 in
theorem eqInts_same (a b : Option Addr) (n ca cb : Nat) (l : List Nat) (w : World) (hn : Hid (l.length = n)) (hl : n ≤ 1048576) (ha : Hid (IRow w a l)) (hb : Hid (IRow w b l)) :
    Calls Try.prog 14 #[.slice a n ca, .slice b n cb] w fun e w' => e = .returned (.bool true) ∧ ∃ q, w' = w.drewN q := by
  have d1 : ((n : Int) != (n : Int)) = false := by simp
  go_enter Try.func14, Try.ntmps14
  go_wp2
  go_loopw [5] (fun i wr => ∃ k q : Nat, k ≤ n ∧ i = .int .i64 k ∧ wr = w.drewN q) (fun i _ => n - (intOf i).toNat)
  case atStart => exact ⟨0, 0, Nat.zero_le _, rfl, rfl⟩
  case round =>
    obtain ⟨k, q, hk, rfl, rfl⟩ := hrel
    by_cases hlt : k < n
    · obtain ⟨b1, o1, rfl, hc1⟩ := ha.out k (by rw [hn.out]; exact hlt)
      obtain ⟨b2, o2, rfl, hc2⟩ := hb.out k (by rw [hn.out]; exact hlt)
      have e1 : (k : Int) < n := by omega
      go_wp2_with fail
      go_quiet (fail)
      go_wp2
      go_roundw
      case rel => exact ⟨k + 1, _, by omega, by go_num, rfl⟩
      case measure => simp [intOf]; omega
    · go_wp2
      go_ret
      exact ⟨rfl, q, rfl⟩

/-- The names of the claims. -/
def names (cs : List Cm) : List ByteArray := cs.map Cm.name
theorem names_len (cs : List Cm) : (names cs).length = cs.length := by simp [names]
theorem names_at (cs : List Cm) (i : Nat) : sat (names cs) i = (cat cs i).name := by
  unfold sat names cat
  rw [List.getD_eq_getElem?_getD, List.getD_eq_getElem?_getD, List.getElem?_map]
  cases cs[i]? <;> rfl

set_option maxHeartbeats 1000000 in
theorem names12 (v : Value) (cs : List Cm) (n : Nat) (w : World) (hn : Hid (cs.length = n)) (hP : K w v cs) (hl : n ≤ 4096) :
    Calls Try.prog 12 #[v] w fun e w' => ∃ g, e = .returned (.slice (some ⟨g, 0, none⟩) n n) ∧ Hid (SRow w' (some ⟨g, 0, none⟩) (names cs)) ∧ Below w.heap.size w w' := by
  obtain ⟨a, cap, rfl, hl2, hk⟩ := hP
  rw [hn.out] at hl2 hk ⊢
  have HK : Hid (∀ i, i < n → ∃ b off ra rc, a = some ⟨b, off, none⟩ ∧ Five w b (off + i * 5) (cat cs i) ra rc) := hk
  clear hk
  have hmk := run_make_row' (P := Try.prog) 28 9 (.string ByteArray.empty) 16 Try.underlying28 Try.info9 rfl .i64 .i64 n (by omega) (by omega)
  have HR0 : Hid ((w.alloc (.cells (madeCells #[Value.string ByteArray.empty] n) 9)).rowIs w.heap.size 9 n (fun _ => .string ByteArray.empty)) := World.rowIs_made w _ n 9
  go_enter Try.func12, Try.ntmps12
  go_wp2
  go_loopw [4] (fun i wr => ∃ k : Nat, k ≤ n ∧ i = .int .i64 k ∧ Below w.heap.size w wr ∧ Hid (wr.rowIs w.heap.size 9 n (fun i => if i < k then .string (sat (names cs) i) else .string ByteArray.empty))) (fun i _ => n - (intOf i).toNat)
  case atStart => exact ⟨0, Nat.zero_le _, rfl, (Below.refl _ _).alloc (Nat.le_refl _) _, HR0.out.congr fun i _ => by rw [if_neg (by omega)]⟩
  case round =>
    obtain ⟨k, hk, rfl, hb, hR⟩ := hrel
    by_cases hlt : k < n
    · obtain ⟨b, off, ra, rc, rfl, h5⟩ := HK.out k hlt
      have hc := cell_later hb h5.c0
      rw [← names_at] at hc
      have g1 : wr.cell? ⟨w.heap.size, k, none⟩ = some (.string ByteArray.empty) := by
        rw [hR.out.cell hlt, if_neg (by omega)]
      have g2 : wr.frozen? ⟨w.heap.size, k, none⟩ = false := hR.out.frozen _
      have e1 : (k : Int) < n := by omega
      have R : Hid ((wr.setCell ⟨w.heap.size, k, none⟩ (.string (sat (names cs) k))).rowIs w.heap.size 9 n (fun i => if i < k + 1 then .string (sat (names cs) i) else .string ByteArray.empty)) := by
        refine (hR.out.set k _).congr fun i _ => ?_
        by_cases e : i = k
        · subst e; rw [if_pos rfl, if_pos (by omega)]
        · rw [if_neg e]
          by_cases e2 : i < k
          · rw [if_pos e2, if_pos (by omega)]
          · rw [if_neg e2, if_neg (by omega)]
      have hb2 : Below w.heap.size w (wr.setCell ⟨w.heap.size, k, none⟩ (.string (sat (names cs) k))) := hb.setCell (p := ⟨w.heap.size, k, none⟩) (Nat.le_refl _) _
      clear h5
      go_wp2
      go_roundw
      case rel => exact ⟨k + 1, by omega, by go_num, hb2, R⟩
      case measure => simp [intOf]; omega
    · have R : Hid (SRow wr (some ⟨w.heap.size, 0, none⟩) (names cs)) := by
        intro j hj
        rw [names_len, hn.out] at hj
        refine ⟨_, _, rfl, ?_⟩
        rw [Nat.zero_add, hR.out.cell hj, if_pos (by omega)]
      go_wp2
      go_ret
      exact ⟨_, rfl, R, hb⟩

/-- The rank of claim j. -/
def rks (cs : List Cm) (j : Nat) : Int := (cat cs j).rank

theorem bst_hit (ns : List ByteArray) (rk : Nat → Int) (x : ByteArray) (j : Nat) (h : sat ns j = x) (c : (bst ns rk x j).1 = false ∨ (bst ns rk x j).2 < rk j) : bst ns rk x (j + 1) = (true, rk j) := by simp only [bst, if_pos h, if_pos c]
theorem bst_low (ns : List ByteArray) (rk : Nat → Int) (x : ByteArray) (j : Nat) (h : sat ns j = x) (c : ¬ ((bst ns rk x j).1 = false ∨ (bst ns rk x j).2 < rk j)) : bst ns rk x (j + 1) = bst ns rk x j := by simp only [bst, if_pos h, if_neg c]
theorem bst_miss (ns : List ByteArray) (rk : Nat → Int) (x : ByteArray) (j : Nat) (h : sat ns j ≠ x) : bst ns rk x (j + 1) = bst ns rk x j := by simp only [bst, if_neg h]
theorem tops_hit (ns : List ByteArray) (rk : Nat → Int) (x : ByteArray) (b : Int) (j : Nat) (h : sat ns j = x) (c : rk j = b) : tops ns rk x b (j + 1) = tops ns rk x b j ++ [j] := by rw [tops, if_pos ⟨h, c⟩]
theorem tops_miss (ns : List ByteArray) (rk : Nat → Int) (x : ByteArray) (b : Int) (j : Nat) (h : ¬ (sat ns j = x ∧ rk j = b)) : tops ns rk x b (j + 1) = tops ns rk x b j := by rw [tops, if_neg h]
theorem tops_len (ns : List ByteArray) (rk : Nat → Int) (x : ByteArray) (b : Int) (j : Nat) : (tops ns rk x b j).length ≤ j := by
  induction j with
  | zero => exact Nat.le_refl _
  | succ j ih =>
    unfold tops
    split
    · rw [List.length_append]; simp only [List.length_cons, List.length_nil]; omega
    · omega

theorem Try.info3 : (Try.prog.info? 3).map (fun i => (i.zero, i.size, i.bytes)) = some (some (.int .i64 0), 1, 8) := by kernel_rfl

set_option maxRecDepth 100000 in
set_option maxHeartbeats 2000000 in
theorem top15 (an : Option Addr) (cn : Nat) (ns : List ByteArray) (v : Value) (cs : List Cm) (x : ByteArray) (n : Nat) (w : World) (hn : Hid (cs.length = n)) (hnn : Hid (ns.length = n)) (hr : Hid (SRow w an ns)) (hP : K w v cs) (hl : n ≤ 4096) :
    Calls Try.prog 15 #[.slice an n cn, v, .string x] w fun e w' => ∃ u, e = .returned u ∧ OwnI w' w.heap.size u (top ns (rks cs) x n) ∧ Below w.heap.size w w' := by
  obtain ⟨a, cap, rfl, hl2, hk⟩ := hP
  rw [hn.out] at hl2 hk ⊢
  have HK : Hid (∀ i, i < n → ∃ b off ra rc, a = some ⟨b, off, none⟩ ∧ Five w b (off + i * 5) (cat cs i) ra rc) := hk
  clear hk
  obtain ⟨i0, hi, hz0, hz1, hz2⟩ := info_parts Try.info3
  go_enter Try.func15, Try.ntmps15
  go_wp2
  go_loop [7, 8, 9] (fun f b i => ∃ k : Nat, k ≤ n ∧ i = .int .i64 k ∧ f = .bool (bst ns (rks cs) x k).1 ∧ b = .int .i64 (bst ns (rks cs) x k).2) (fun _ _ i => n - (intOf i).toNat)
  case atStart => exact ⟨0, Nat.zero_le _, rfl, rfl, rfl⟩
  case round =>
    obtain ⟨k, hk, rfl, rfl, rfl⟩ := hrel
    by_cases hlt : k < n
    · obtain ⟨b, off, ra, rc, rfl, h5⟩ := HK.out k hlt
      have hc3 : w.cell? ⟨b, off + k * 5 + 3, none⟩ = some (.int .i64 (rks cs k)) := h5.c3
      clear h5
      obtain ⟨bn, on, rfl, hcn⟩ := hr.out k (by rw [hnn.out]; exact hlt)
      have e1 : (k : Int) < n := by omega
      by_cases hx : sat ns k = x
      · have hx' : ((sat ns k).toList == x.toList) = true := str_eq hx
        have HX : Hid (sat ns k = x) := hx
        clear hx
        obtain ⟨p1, hp1⟩ : ∃ p, (bst ns (rks cs) x k).1 = p := ⟨_, rfl⟩
        obtain ⟨p2, hp2⟩ : ∃ p, (bst ns (rks cs) x k).2 = p := ⟨_, rfl⟩
        have HB : Hid ((bst ns (rks cs) x k).1 = p1 ∧ (bst ns (rks cs) x k).2 = p2) := ⟨hp1, hp2⟩
        rw [hp1, hp2]
        clear hp1 hp2
        cases p1 with
        | false =>
          have HG : Hid (bst ns (rks cs) x (k + 1) = (true, rks cs k)) := bst_hit _ _ _ _ HX.out (Or.inl HB.out.1)
          go_wp2
          go_round
          case rel => exact ⟨k + 1, by omega, by go_num, by rw [HG.out], by rw [HG.out]⟩
          case measure => simp [intOf]; omega
        | true =>
          by_cases hrk : p2 < rks cs k
          · have HG : Hid (bst ns (rks cs) x (k + 1) = (true, rks cs k)) := bst_hit _ _ _ _ HX.out (Or.inr (by rw [HB.out.2]; exact hrk))
            go_wp2
            go_round
            case rel => exact ⟨k + 1, by omega, by go_num, by rw [HG.out], by rw [HG.out]⟩
            case measure => simp [intOf]; omega
          · have HG : Hid (bst ns (rks cs) x (k + 1) = bst ns (rks cs) x k) := bst_low _ _ _ _ HX.out (by
              rintro (h | h)
              · rw [HB.out.1] at h; cases h
              · rw [HB.out.2] at h; exact hrk h)
            go_wp2
            go_round
            case rel => exact ⟨k + 1, by omega, by go_num, by rw [HG.out, HB.out.1], by rw [HG.out, HB.out.2]⟩
            case measure => simp [intOf]; omega
      · have hx' : ((sat ns k).toList == x.toList) = false := str_ne hx
        have HG : Hid (bst ns (rks cs) x (k + 1) = bst ns (rks cs) x k) := bst_miss _ _ _ _ hx
        clear hx
        go_wp2
        go_round
        case rel => exact ⟨k + 1, by omega, by go_num, by rw [HG.out], by rw [HG.out]⟩
        case measure => simp [intOf]; omega
    · have hke : n = k := by omega
      subst hke
      obtain ⟨p2, hp2⟩ : ∃ p, (bst ns (rks cs) x n).2 = p := ⟨_, rfl⟩
      have HB : Hid ((bst ns (rks cs) x n).2 = p2) := hp2
      rw [hp2]
      clear hp2
      go_wp2
      go_loopw [10, 11] (fun o i wr => ∃ k : Nat, k ≤ n ∧ i = .int .i64 k ∧ Hid (OwnI wr w.heap.size o (tops ns (rks cs) x p2 k)) ∧ Below w.heap.size w wr) (fun _ i _ => n - (intOf i).toNat)
      case atStart => exact ⟨0, Nat.zero_le _, rfl, World.ownsRow_nil _ _ _ _, Below.refl _ _⟩
      case round =>
        obtain ⟨k, hk, rfl, hown, hb⟩ := hrel
        by_cases hlt : k < n
        · obtain ⟨b, off, ra, rc, rfl, h5⟩ := HK.out k hlt
          have hc3 : wr.cell? ⟨b, off + k * 5 + 3, none⟩ = some (.int .i64 (rks cs k)) := cell_later hb h5.c3
          clear h5
          obtain ⟨bn, on, rfl, hcn'⟩ := hr.out k (by rw [hnn.out]; exact hlt)
          have hcn := cell_later hb hcn'
          have e1 : (k : Int) < n := by omega
          have hlen := tops_len ns (rks cs) x p2 k
          by_cases hx : sat ns k = x
          · have hx' : ((sat ns k).toList == x.toList) = true := str_eq hx
            have HX : Hid (sat ns k = x) := hx
            clear hx
            by_cases hq : rks cs k = p2
            · have HG : Hid (tops ns (rks cs) x p2 (k + 1) = tops ns (rks cs) x p2 k ++ [k]) := tops_hit _ _ _ _ _ HX.out hq
              have hq' : (rks cs k == p2) = true := by simpa using hq
              clear hq
              obtain ⟨ys, hys⟩ : ∃ ys, tops ns (rks cs) x p2 k = ys := ⟨_, rfl⟩
              rw [hys] at HG hlen hown
              clear hys
              go_wp2_with (at_builtin; refine wpList_append_own _ rfl _ _ 32 rfl w.heap.size 3 i0 (.int .i64 0) 1 8 Try.underlying32 hi hz0 hz1 hz2 rfl (by decide) _ _ _ rfl (World.ownsRow.alloc hown.out _) ⟨wr.heap.size, 0, none⟩ 1 1 [.int .i64 (k : Int)] rfl rfl ?c1 ?c2 ?c3 ?c4 ?c5 ?_)
              case c1 => exact cell_one_new _ _ _
              case c2 => intro u hu; simp at hu; subst hu; rfl
              case c3 => unfold maxLen; omega
              case c4 => omega
              case c5 => have := hb.size; simp; omega
              intro v' w2 hown' hgrow _
              have R : Hid (OwnI w2 w.heap.size v' (ys ++ [k])) := OwnI.snoc hown'
              have hB2 := ownI_step hb hb.size hown.out hgrow
              clear hown' hgrow hc3 hcn
              go_wp2
              go_roundw
              case rel => exact ⟨k + 1, by omega, by go_num, by rw [HG.out]; exact R, hB2⟩
              case measure => simp [intOf]; omega
            · have HG : Hid (tops ns (rks cs) x p2 (k + 1) = tops ns (rks cs) x p2 k) := tops_miss _ _ _ _ _ (fun h => hq h.2)
              have hq' : (rks cs k == p2) = false := by simpa using hq
              clear hq
              go_wp2
              go_roundw
              case rel => exact ⟨k + 1, by omega, by go_num, by rw [HG.out]; exact hown, hb⟩
              case measure => simp [intOf]; omega
          · have hx' : ((sat ns k).toList == x.toList) = false := str_ne hx
            have HG : Hid (tops ns (rks cs) x p2 (k + 1) = tops ns (rks cs) x p2 k) := tops_miss _ _ _ _ _ (fun h => hx h.1)
            clear hx
            go_wp2
            go_roundw
            case rel => exact ⟨k + 1, by omega, by go_num, by rw [HG.out]; exact hown, hb⟩
            case measure => simp [intOf]; omega
        · have hke : n = k := by omega
          subst hke
          go_wp2
          go_ret
          exact ⟨_, rfl, by unfold top; rw [HB.out]; exact hown.out, hb⟩
end Go.Proofs.Qxb6617226a
