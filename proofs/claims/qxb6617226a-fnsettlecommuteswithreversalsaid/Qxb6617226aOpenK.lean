/- From the reading of the argument []Claim to what it holds. -/
import Derived.Test.Qxb6617226aClm
import Derived.Test.Qxb6617226aOpen
namespace Go.Proofs.Qxb6617226a
open Go.ChangeShapes Go.WideShapes Go.RowKit

instance : Inhabited Cm := ⟨Cm.nil⟩

section
variable {H : Type} {enc : TypeId × Value → H} {w : World} {spare : Nat → Bool} {held : Bool}

theorem open_row28 {fuel : Nat} {cs : List Value} {x : DataW H × List MemPlace} (h : DataW.trod enc Try.prog w 0 spare held fuel 28 cs = some x) :
    ∃ ra rc xs, cs = [.slice ra xs.length rc] ∧ (ra = none → rc = 0) ∧ SRow w ra xs ∧ xs.length ≤ 9223372036854775807 ∧ ∀ j, j < xs.length → (sat xs j).size ≤ 9223372036854775807 := by
  rcases Deep.open_slice1 Try.underlying28 (by kernel_rfl) h with ⟨rfl, _⟩ | ⟨a, len, cap, m, n, V, D, Pl, rfl, _, hl, hm, hmm, _, hx⟩
  · exact ⟨none, 0, [], rfl, fun _ => rfl, fun j hj => absurd hj (Nat.not_lt_zero _), by simp, fun j hj => absurd hj (Nat.not_lt_zero _)⟩
  · have hlm : len ≤ m := by rw [hmm]; split <;> omega
    obtain ⟨f, hf⟩ := Deep.choose_lt (α := ByteArray) (n := len) (p := fun i s => V i = .string s ∧ s.size ≤ maxLen) (fun i hi => by
      obtain ⟨_, h2⟩ := hx i (by omega)
      obtain ⟨s, hs, _, hsz⟩ := DataW.trod_string Try.underlying9 h2
      exact ⟨s, by simpa using hs, hsz⟩)
    have e : ∀ k, k < len → sat ((List.range len).map f) k = f k := fun k hk => by unfold sat; simp [List.getD_eq_getElem?_getD, hk]
    refine ⟨some a, cap, (List.range len).map f, by simp, fun h => (by cases h), fun k hk => ?_, by simp; unfold maxLen at hm; omega, fun k hk => ?_⟩
    · have hk' : k < len := by simpa using hk
      obtain ⟨b, off, ha, hc⟩ := cells_plain (n := len) (fun i hi => (hx i (by omega)).1) k hk'
      exact ⟨b, off, ha, by rw [e k hk', ← (hf k hk').1]; exact hc⟩
    · have hk' : k < len := by simpa using hk
      rw [e k hk']
      have := (hf k hk').2
      unfold maxLen at this
      omega

theorem cells34 : Try.prog.cellsOf 34 = 5 := by kernel_rfl
theorem cells9 : Try.prog.cellsOf 9 = 1 := by kernel_rfl
theorem cells4 : Try.prog.cellsOf 4 = 1 := by kernel_rfl
theorem cells3 : Try.prog.cellsOf 3 = 1 := by kernel_rfl
theorem cells28 : Try.prog.cellsOf 28 = 1 := by kernel_rfl

theorem five_open {a : Addr} {b off : Nat} (ha : a = ⟨b, off, none⟩) {i n : Nat} {cs' : List Value} {y : DataW H × List MemPlace} (h1 : w.cells? 0 (a.add (i * Try.prog.cellsOf 34)) (Try.prog.cellsOf 34) = some cs') (h2 : DataW.trod enc Try.prog w 0 spare held n 34 cs' = some y) :
    ∃ c : Cm, ∃ ra rc, Five w b (off + i * 5) c ra rc := by
  rw [cells34] at h1
  obtain ⟨_, hlen, hcell⟩ := World.cells?_some h1
  obtain ⟨xs, k, hk, hxy, _, hxl, hf⟩ := DataW.trod_struct Try.underlying34 h2
  match xs, hxl, cs', hlen with
  | [y0, y1, y2, y3, y4], _, [v0, v1, v2, v3, v4], _ =>
    have g0 : DataW.trod enc Try.prog w 0 spare held k 9 ((([v0, v1, v2, v3, v4] : List Value).drop 0).take (Try.prog.cellsOf 9)) = some y0 := hf 0 _ rfl
    have g1 : DataW.trod enc Try.prog w 0 spare held k 9 ((([v0, v1, v2, v3, v4] : List Value).drop 1).take (Try.prog.cellsOf 9)) = some y1 := hf 1 _ rfl
    have g2 : DataW.trod enc Try.prog w 0 spare held k 4 ((([v0, v1, v2, v3, v4] : List Value).drop 2).take (Try.prog.cellsOf 4)) = some y2 := hf 2 _ rfl
    have g3 : DataW.trod enc Try.prog w 0 spare held k 3 ((([v0, v1, v2, v3, v4] : List Value).drop 3).take (Try.prog.cellsOf 3)) = some y3 := hf 3 _ rfl
    have g4 : DataW.trod enc Try.prog w 0 spare held k 28 ((([v0, v1, v2, v3, v4] : List Value).drop 4).take (Try.prog.cellsOf 28)) = some y4 := hf 4 _ rfl
    rw [cells9] at g0 g1
    rw [cells4] at g2
    rw [cells3] at g3
    rw [cells28] at g4
    have e0 := hcell 0 (by omega)
    have e1 := hcell 1 (by omega)
    have e2 := hcell 2 (by omega)
    have e3 := hcell 3 (by omega)
    have e4 := hcell 4 (by omega)
    rw [Deep.add_add] at e0 e1 e2 e3 e4
    obtain ⟨s0, hs0, _, hz0⟩ := DataW.trod_string Try.underlying9 g0
    obtain ⟨s1, hs1, _, hz1⟩ := DataW.trod_string Try.underlying9 g1
    obtain ⟨bb, hs2, _⟩ := DataW.trod_bool Try.underlying4 g2
    obtain ⟨r, hs3, _, hwf⟩ := DataW.trod_int Try.underlying3 g3
    obtain ⟨ra, rc, rv, hs4, hnil, hrow, hlr, heach⟩ := open_row28 g4
    simp at hs0 hs1 hs2 hs3 hs4
    subst hs0 hs1 hs2 hs3 hs4
    subst ha
    rw [add_plain] at e0 e1 e2 e3 e4
    have hw : -9223372036854775808 ≤ r ∧ r ≤ 9223372036854775807 := by
      have h3 : (decide (IntKind.i64.min ≤ r) && decide (r ≤ IntKind.i64.max)) = true := hwf
      rw [Bool.and_eq_true] at h3
      have m1 : IntKind.i64.min = -9223372036854775808 := by kernel_rfl
      have m2 : IntKind.i64.max = 9223372036854775807 := by kernel_rfl
      have h4 := of_decide_eq_true h3.1
      have h5 := of_decide_eq_true h3.2
      rw [m1] at h4
      rw [m2] at h5
      exact ⟨h4, h5⟩
    unfold maxLen at hz0 hz1
    exact ⟨⟨s0, s1, bb, r, rv⟩, ra, rc, e0, e1, e2, e3, e4, hnil, hrow, by omega, by omega, hw.1, hw.2, hlr, heach⟩

theorem open_K {fuel : Nat} {cs : List Value} {x : DataW H × List MemPlace} (h : DataW.trod enc Try.prog w 0 spare held fuel 22 cs = some x) : ∃ v P, cs = [v] ∧ K w v P := by
  rcases Deep.open_slice Try.underlying22 h with ⟨rfl, _⟩ | ⟨a, len, cap, m, n, D, Pl, rfl, _, hl, hm, hmm, _, hx⟩
  · exact ⟨_, [], rfl, none, 0, rfl, by simp, fun k hk => absurd hk (Nat.not_lt_zero _)⟩
  · have hlm : len ≤ m := by rw [hmm]; split <;> omega
    have hfirst : 0 < len → a.spot = none := fun h0 => by
      obtain ⟨cs', h1, _⟩ := hx 0 (by omega)
      rw [cells34] at h1
      obtain ⟨_, hlen, hcell⟩ := World.cells?_some h1
      have e0 := hcell 0 (by omega)
      rw [Deep.add_add] at e0
      match cs', hlen with
      | v0 :: _, _ => simpa [Addr.add] using World.cell?_spot (e0.trans rfl)
    obtain ⟨b, off, spot⟩ := a
    obtain ⟨f, hf⟩ := Deep.choose_lt (α := Cm) (n := len) (p := fun i c => ∃ ra rc, Five w b (off + i * 5) c ra rc) (fun i hi => by
      obtain ⟨cs', h1, h2⟩ := hx i (by omega)
      have hspot : spot = none := hfirst (by omega)
      exact five_open (by rw [hspot]) h1 h2)
    refine ⟨_, (List.range len).map f, rfl, some ⟨b, off, spot⟩, cap, by simp, by simp; unfold maxLen at hm; omega, fun k hk => ?_⟩
    have hk' : k < len := by simpa using hk
    have e : cat ((List.range len).map f) k = f k := by unfold cat; simp [List.getD_eq_getElem?_getD, hk']
    obtain ⟨ra, rc, h5⟩ := hf k hk'
    have hspot : spot = none := hfirst (by omega)
    exact ⟨b, off, ra, rc, by rw [hspot], by rw [e]; exact h5⟩
end
end Go.Proofs.Qxb6617226a
