/- A map from strings that the call itself makes: what it holds, a look-up, a store. -/
import Derived.Test.Qxb6617226aFlat
namespace Go.Proofs.Qxb6617226a
open Go.RowKit Go.MapKept

def mget : List (ByteArray × Value) → ByteArray → Option Value
  | [], _ => none
  | p :: m, s => if p.1 = s then some p.2 else mget m s
def mput : List (ByteArray × Value) → ByteArray → Value → List (ByteArray × Value)
  | [], s, v => [(s, v)]
  | p :: m, s, v => if p.1 = s then (s, v) :: m else p :: mput m s v

def kv (x : MapEntry) : Value × Value := (x.key, x.val)
def sv (p : ByteArray × Value) : Value × Value := (.string p.1, p.2)
def MapIs (w : World) (b : Nat) (m : List (ByteArray × Value)) : Prop :=
  ∃ es clock, w.heap[b]? = some (.map es clock) ∧ es.toList.map kv = m.map sv ∧ MapKept.Stamped es clock

theorem MapIs.of_block {w w' : World} {b : Nat} {m : List (ByteArray × Value)} (h : MapIs w b m) (e : w'.heap[b]? = w.heap[b]?) : MapIs w' b m := by
  obtain ⟨es, c, h1, h2⟩ := h
  exact ⟨es, c, e.trans h1, h2⟩
theorem MapIs.lt {w : World} {b : Nat} {m : List (ByteArray × Value)} (h : MapIs w b m) : b < w.heap.size := by
  obtain ⟨es, c, h1, _⟩ := h
  exact (Array.getElem?_eq_some_iff.1 h1).1
theorem MapIs.made (w : World) : MapIs (w.alloc (.map #[] 0)) w.heap.size [] := ⟨#[], 0, (heap_alloc w _).1, rfl, MapKept.stamped_empty 0⟩

theorem find_at (s : ByteArray) : ∀ (m : List (ByteArray × Value)) (L : List MapEntry) (i : Nat), L.map kv = m.map sv →
    (mget m s = none ∧ Instr.findNow .string (.string s) L i = some none ∧ (∀ v, mput m s v = m ++ [(s, v)]) ∧ ∀ x ∈ L, x.key ≠ .string s) ∨
    ∃ j v, mget m s = some v ∧ Instr.findNow .string (.string s) L i = some (some (i + j, v)) ∧ j < L.length ∧ (∃ e, L[j]? = some e ∧ e.key = .string s) ∧
      ∀ v', (L.modify j fun e => { e with key := .string s, val := v' }).map kv = (mput m s v').map sv
  | [], [], i, _ => Or.inl ⟨rfl, rfl, fun _ => rfl, fun x hx => by cases hx⟩
  | [], e :: L, i, h => by simp at h
  | p :: m, [], i, h => by simp at h
  | p :: m, e :: L, i, h => by
    simp only [List.map_cons, List.cons.injEq] at h
    obtain ⟨h1, h2⟩ := h
    have hk : e.key = .string p.1 := congrArg Prod.fst h1
    have hv : e.val = p.2 := congrArg Prod.snd h1
    by_cases hs : p.1 = s
    · refine Or.inr ⟨0, p.2, by simp [mget, hs], ?_, by simp, ⟨e, rfl, by rw [hk, hs]⟩, fun v' => ?_⟩
      · simp only [Instr.findNow, hk, Instr.sameNow]
        rw [(bytes_beq s p.1).2 hs.symm, hv]; rfl
      · simp [mput, hs, kv, sv, h2]
    · have hb : (s == p.1) = false := by
        cases hq : (s == p.1) with
        | false => rfl
        | true => exact absurd ((bytes_beq _ _).1 hq).symm hs
      rcases find_at s m L (i + 1) h2 with ⟨a1, a2, a3, a7⟩ | ⟨j, v, a1, a2, a3, a4, a5⟩
      · refine Or.inl ⟨by simp [mget, hs, a1], ?_, fun v => by simp [mput, hs, a3], fun x hx => ?_⟩
        · simp only [Instr.findNow, hk, Instr.sameNow, hb]; exact a2
        · rcases List.mem_cons.1 hx with rfl | hx
          · rw [hk]; intro h; injection h with h; exact hs h
          · exact a7 x hx
      · refine Or.inr ⟨j + 1, v, by simp [mget, hs, a1], ?_, by simp; omega, by simpa using a4, fun v' => ?_⟩
        · simp only [Instr.findNow, hk, Instr.sameNow, hb]; rw [a2]; congr 3; omega
        · simp [mput, hs, a5 v', h1]

section
variable {P : Program} {w : World} {t k e : TypeId} {b : Nat} {m : List (ByteArray × Value)}

theorem MapIs.look (h : MapIs w b m) (ht : P.underlying t = some (.map k e)) (hk : P.underlying k = some .string) {z : Value} (hz : (zeroValue e).run P w = .ok z w) (s : ByteArray) :
    (Instr.lookup t (.map (some b)) (.string s) false).run P w = .ok ((mget m s).getD z) w := by
  obtain ⟨es, c, hb, hm, hst0⟩ := h
  have hck := fun em => run_checkKey (P := P) (w := w) (kt := k) (k := .string s) hk trivial em 9999
  rcases find_at s m es.toList 0 hm with ⟨a1, a2, _⟩ | ⟨j, v, a1, a2, _, _, _⟩
  · have hf := run_findKey (P := P) (w := w) hk a2
    simp [Instr.lookup, run_underlying ht, MapKept.run_getObj_map hb, hck, hf, hz, Result.andThen, a1]
  · have hf := run_findKey (P := P) (w := w) hk a2
    simp [Instr.lookup, run_underlying ht, MapKept.run_getObj_map hb, hck, hf, Result.andThen, a1]

theorem MapIs.put (h : MapIs w b m) (ht : P.underlying t = some (.map k e)) (hk : P.underlying k = some .string) (s : ByteArray) (v : Value) :
    ∃ w', (Instr.mapUpdate t (.map (some b)) (.string s) v).run P w = .ok () w' ∧ MapIs w' b (mput m s v) ∧ (∀ r, r ≠ b → w'.heap[r]? = w.heap[r]?) ∧ w'.heap.size = w.heap.size ∧ w'.os = w.os ∧ w'.tape = w.tape ∧ w'.output = w.output := by
  obtain ⟨es, c, hb, hm, hst0⟩ := h
  have hck := run_checkKey (P := P) (w := w) (kt := k) (k := .string s) hk trivial false 9999
  rcases find_at s m es.toList 0 hm with ⟨a1, a2, a3, a7⟩ | ⟨j, v0, a1, a2, a3, ⟨e0, a4, a6⟩, a5⟩
  · have hf := run_findKey (P := P) (w := w) hk a2
    refine ⟨{ w with heap := w.heap.setIfInBounds b (.map (es.push { key := .string s, val := v, born := c }) (c + 1)) }, ?_, ⟨_, _, (heap_set hb).1, ?_, ?_⟩, (heap_set hb).2, by simp, rfl, rfl, rfl⟩
    · simp [Instr.mapUpdate, run_underlying ht, MapKept.run_getObj_map hb, hck, hf, MapKept.run_setObj_map _ hb, Result.andThen]
    · rw [a3, Array.toList_push, List.map_append, List.map_append, hm]; rfl
    · exact MapKept.stamped_push hst0 a7
  · have hf := run_findKey (P := P) (w := w) hk a2
    have hst := run_keyThatStays (P := P) (w := w) (d := .string) (k := .string s) trivial
    have hej : es[j]? = some e0 := by simpa using a4
    refine ⟨{ w with heap := w.heap.setIfInBounds b (.map (es.modify j fun e => { e with key := .string s, val := v }) c) }, ?_, ⟨_, _, (heap_set hb).1, ?_, ?_⟩, (heap_set hb).2, by simp, rfl, rfl, rfl⟩
    · simp [Instr.mapUpdate, run_underlying ht, MapKept.run_getObj_map hb, hck, hf, MapKept.run_setObj_map _ hb, Result.andThen, hej, a6, hst]
    · rw [Array.toList_modify]; exact a5 v
    · exact MapKept.stamped_modify hst0 j _ (fun _ _ => rfl) (fun e _ he => by rw [hej] at he; cases he; exact a6.symm)
end
end Go.Proofs.Qxb6617226a
