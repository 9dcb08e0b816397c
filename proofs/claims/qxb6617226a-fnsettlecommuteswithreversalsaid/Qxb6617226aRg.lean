/- A range over a map that the call itself has made: which keys have come. -/
import Derived.Test.Qxb6617226aGrp
import Derived.Maps.RangeWalk
namespace Go.Proofs.Qxb6617226a
open Go.RowKit Go.MapKept
open Go.ChangeMaps (setBlock)

/-- The iterator at r over the map at b; S: the keys that have come; cnt: how many entries are left. -/
def Rg (w : World) (b r : Nat) (m : List (ByteArray × Value)) (S : ByteArray → Bool) (cnt : Nat) : Prop :=
  ∃ es clock since c0 seen, w.heap[b]? = some (.map es clock) ∧ es.toList.map kv = m.map sv ∧ MapKept.Stamped es clock ∧ w.heap[r]? = some (.mapIter (some b) since seen c0) ∧
    (∀ x ∈ es.toList, x.born < since) ∧ since ≤ c0 ∧ since ≤ clock ∧ (∀ x ∈ es.toList, ∀ s, x.key = .string s → seen.contains x.born = S s) ∧ (leftOf es seen).size = cnt

theorem Rg.kept {w w' : World} {b r : Nat} {m : List (ByteArray × Value)} {S : ByteArray → Bool} {cnt : Nat} (h : Rg w b r m S cnt) (h1 : w'.heap[b]? = w.heap[b]?) (h2 : w'.heap[r]? = w.heap[r]?) : Rg w' b r m S cnt := by
  obtain ⟨es, clock, since, c0, seen, a1, a2, a3, a4, a5⟩ := h
  exact ⟨es, clock, since, c0, seen, h1.trans a1, a2, a3, h2.trans a4, a5⟩
theorem Rg.map {w : World} {b r : Nat} {m : List (ByteArray × Value)} {S : ByteArray → Bool} {cnt : Nat} (h : Rg w b r m S cnt) : MapIs w b m := by
  obtain ⟨es, clock, since, c0, seen, a1, a2, a3, _⟩ := h
  exact ⟨es, clock, a1, a2, a3⟩
theorem Rg.lt {w : World} {b r : Nat} {m : List (ByteArray × Value)} {S : ByteArray → Bool} {cnt : Nat} (h : Rg w b r m S cnt) : r < w.heap.size := by
  obtain ⟨es, clock, since, c0, seen, _, _, _, a4, _⟩ := h
  exact (Array.getElem?_eq_some_iff.1 a4).1

theorem MapIs.range {w : World} {b : Nat} {m : List (ByteArray × Value)} {P : Program} {t k e : TypeId} (h : MapIs w b m) (ht : P.underlying t = some (.map k e)) :
    ∃ w', (Instr.range t (.map (some b))).run P w = .ok (.pointer (some ⟨w.heap.size, 0, none⟩)) w' ∧ (∃ o, w' = w.alloc o) ∧ ∃ cnt, Rg w' b w.heap.size m (fun _ => false) cnt := by
  have hl := h.lt
  obtain ⟨es, clock, hb, hm, hs⟩ := h
  refine ⟨_, run_range_map w t k e b es clock ht hb, ⟨_, rfl⟩, _, es, clock, clock, clock, #[], ?_, hm, hs, heap_alloc_new _ _, hs.1, Nat.le_refl _, Nat.le_refl _, fun x _ s _ => by simp, rfl⟩
  rw [heap_alloc_old _ _ hl]; exact hb

theorem entry_of {es : Array MapEntry} {m : List (ByteArray × Value)} (hm : es.toList.map kv = m.map sv) {e : MapEntry} (he : e ∈ es.toList) : ∃ p ∈ m, e.key = .string p.1 ∧ e.val = p.2 := by
  have : kv e ∈ m.map sv := by rw [← hm]; exact List.mem_map_of_mem he
  obtain ⟨p, hp, h⟩ := List.mem_map.1 this
  simp only [kv, sv, Prod.mk.injEq] at h
  exact ⟨p, hp, h.1.symm, h.2.symm⟩
theorem entry_to {es : Array MapEntry} {m : List (ByteArray × Value)} (hm : es.toList.map kv = m.map sv) {p : ByteArray × Value} (hp : p ∈ m) : ∃ e ∈ es.toList, e.key = .string p.1 ∧ e.val = p.2 := by
  have : sv p ∈ es.toList.map kv := by rw [hm]; exact List.mem_map_of_mem hp
  obtain ⟨e, he, h⟩ := List.mem_map.1 this
  simp only [kv, sv, Prod.mk.injEq] at h
  exact ⟨e, he, h.1, h.2⟩

theorem setBlock_same {w : World} {r : Nat} (o : Obj) (h : r < w.heap.size) : (setBlock w r o).heap[r]? = some o := by
  show (w.heap.setIfInBounds r o)[r]? = _
  rw [Array.getElem?_setIfInBounds_self_of_lt h]
theorem setBlock_other {w : World} {r x : Nat} (o : Obj) (h : x ≠ r) : (setBlock w r o).heap[x]? = w.heap[x]? := by
  show (w.heap.setIfInBounds r o)[x]? = _
  rw [Array.getElem?_setIfInBounds_ne (fun e => h e.symm)]

theorem key_inj {l : List MapEntry} (hn : (l.map (·.key)).Nodup) {x e : MapEntry} (hx : x ∈ l) (he : e ∈ l) (h : x.key = e.key) : x = e := by
  induction l with
  | nil => cases hx
  | cons a l ih =>
    rw [List.map_cons, List.nodup_cons] at hn
    rcases List.mem_cons.1 hx with rfl | hx'
    · rcases List.mem_cons.1 he with rfl | he
      · rfl
      · exact absurd (by rw [h]; exact List.mem_map_of_mem he) hn.1
    · rcases List.mem_cons.1 he with rfl | he
      · exact absurd (by rw [← h]; exact List.mem_map_of_mem hx') hn.1
      · exact ih hn.2 hx' he
/-- The step. -/
theorem Rg.next {w : World} {b r : Nat} {m : List (ByteArray × Value)} {S : ByteArray → Bool} {cnt : Nat} {P : Program} (h : Rg w b r m S cnt) (ty : TypeId) :
    ((∀ p ∈ m, S p.1 = true) ∧ (Instr.next (.pointer (some ⟨r, 0, none⟩)) false ty).run P w = .ok (.tuple #[.bool false]) w) ∨
    ∃ p ∈ m, S p.1 = false ∧ ∃ w' cnt', (Instr.next (.pointer (some ⟨r, 0, none⟩)) false ty).run P w = .ok (.tuple #[.bool true, .string p.1, p.2]) w' ∧
      (Instr.entry (.pointer (some ⟨r, 0, none⟩))).run P w' = .ok (.tuple #[.string p.1, p.2]) w' ∧ Rg w' b r m (fun s => S s || decide (s = p.1)) cnt' ∧ cnt' < cnt ∧ w.grownBy w' (some r) ∧ w'.heap.size = w.heap.size := by
  have hrl := h.lt
  obtain ⟨es, clock, since, c0, seen, a1, a2, a3, a4, a5, a6, a6c, a7, a8⟩ := h
  rcases run_next_at (P := P) w ty r b since c0 seen es clock a4 a1 a5 a6 with ⟨h0, hr⟩ | ⟨e, he, w1, hw1, hr⟩
  · left
    refine ⟨fun p hp => ?_, hr⟩
    obtain ⟨x, hx, hk, _⟩ := entry_to a2 hp
    rw [← a7 x hx p.1 hk]
    exact all_seen es seen h0 x hx
  · right
    obtain ⟨hem, hes⟩ := mem_left he
    obtain ⟨p, hp, hk, hv⟩ := entry_of a2 hem
    have hbr : b ≠ r := fun e => by rw [e, a4] at a1; cases a1
    have hh : ∀ x : Nat, w1.heap[x]? = w.heap[x]? := fun x => by rcases hw1 with rfl | rfl <;> rfl
    have hsz : w1.heap.size = w.heap.size := by rcases hw1 with rfl | rfl <;> rfl
    have c1 : (setBlock w1 r (.mapIter (some b) since (seen.push e.born) clock)).heap[b]? = some (.map es clock) := by rw [setBlock_other _ hbr, hh]; exact a1
    have c2 : (setBlock w1 r (.mapIter (some b) since (seen.push e.born) clock)).heap[r]? = some (.mapIter (some b) since (seen.push e.born) clock) := setBlock_same _ (by omega)
    refine ⟨p, hp, by rw [← a7 e hem p.1 hk]; exact hes, _, (leftOf es (seen.push e.born)).size, by rw [← hk, ← hv]; exact hr, ?_, ⟨es, clock, since, clock, _, c1, a2, a3, c2, a5, a6c, a6c, ?_, rfl⟩, ?_, ?_, ?_⟩
    · rw [← hk, ← hv]
      exact run_entry_at _ r b since seen es clock e c2 c1 hem a3.2.1
    · intro x hx s hs
      rw [contains_push, a7 x hx s hs]
      congr 1
      by_cases hb2 : x.born = e.born
      · have : x = e := born_inj a3.2.1 hx hem hb2
        subst this
        rw [hk] at hs
        cases hs
        simp
      · have : s ≠ p.1 := by
          intro hsp
          apply hb2
          have hkk : x.key = e.key := by rw [hs, hk, hsp]
          rw [key_inj a3.2.2 hx hem hkk]
        simp [hb2, this]
    · rw [← a8]; exact left_shrinks es seen e he
    · refine ⟨?_, ?_, ?_, ?_, fun x _ hne => ?_⟩
      · rcases hw1 with rfl | rfl <;> rfl
      · rcases hw1 with rfl | rfl <;> rfl
      · rcases hw1 with rfl | rfl <;> rfl
      · show w.heap.size ≤ (w1.heap.setIfInBounds _ _).size
        simp; omega
      · rw [setBlock_other _ (fun e => hne (by rw [e])), hh]
    · show (w1.heap.setIfInBounds _ _).size = _
      simp; omega
end Go.Proofs.Qxb6617226a
