/- Plain: which claims get the suffix, and what a settled row of claims holds. -/
import Derived.Test.Qxb6617226aClmTop
namespace Go.Proofs.Qxb6617226a

def suf : ByteArray := { data := #[95, 99, 111, 110, 115, 116] }

def mk (n : Nat) (f : Nat → Cm) : List Cm := (List.range n).map f
theorem mk_len (n : Nat) (f : Nat → Cm) : (mk n f).length = n := by simp [mk]
theorem mk_at {n : Nat} (f : Nat → Cm) {i : Nat} (h : i < n) : cat (mk n f) i = f i := by
  unfold cat mk; simp [List.getD_eq_getElem?_getD, h]
theorem mk_out {n : Nat} (f : Nat → Cm) {i : Nat} (h : ¬ i < n) : cat (mk n f) i = Cm.nil := by
  unfold cat mk; simp [List.getD_eq_getElem?_getD, h]
theorem cat_out {cs : List Cm} {i : Nat} (h : ¬ i < cs.length) : cat cs i = Cm.nil := by
  unfold cat; simp [List.getD_eq_getElem?_getD, h]
theorem mk_congr {n : Nat} {f f' : Nat → Cm} (h : ∀ i, i < n → f i = f' i) : mk n f = mk n f' :=
  List.map_congr_left fun i hi => h i (List.mem_range.1 hi)
theorem mk_self (cs : List Cm) : mk cs.length (cat cs) = cs := by
  apply List.ext_getElem
  · simp [mk]
  · intro i h1 h2
    simp [mk, cat, List.getD_eq_getElem?_getD, h2]

/-- Of a group of twins of which one is constant: that one. -/
def pick (cs : List Cm) : List Nat → Option Nat
  | [x, y] => if (cat cs x).cst = (cat cs y).cst then none else if (cat cs x).cst = true then some x else some y
  | _ => none
theorem pick_mem {cs : List Cm} {g : List Nat} {i : Nat} (h : pick cs g = some i) : i ∈ g := by
  unfold pick at h
  split at h
  · split at h
    · cases h
    · split at h <;> cases h <;> simp
  · cases h
theorem pick_len {cs : List Cm} {g : List Nat} (h : g.length ≠ 2) : pick cs g = none := by
  unfold pick
  split
  · exact absurd rfl h
  · rfl

/-- Claim i gets the suffix. -/
def rn (cs : List Cm) (i : Nat) : Bool := decide (pick cs (top (names cs) (rks cs) (cat cs i).name cs.length) = some i)

def suffixed (c : Cm) : Cm := { c with name := c.name ++ suf }
def ren (cs : List Cm) (S : Nat → Bool) : List Cm := mk cs.length fun i => if S i then suffixed (cat cs i) else cat cs i
theorem ren_len (cs : List Cm) (S : Nat → Bool) : (ren cs S).length = cs.length := mk_len _ _
theorem ren_at {cs : List Cm} (S : Nat → Bool) {i : Nat} (h : i < cs.length) : cat (ren cs S) i = if S i then suffixed (cat cs i) else cat cs i := mk_at _ h
theorem ren_rks (cs : List Cm) (S : Nat → Bool) : rks (ren cs S) = rks cs := by
  funext j
  unfold rks
  by_cases h : j < cs.length
  · rw [ren_at S h]; split <;> rfl
  · rw [cat_out h, cat_out (by rw [ren_len]; exact h)]
theorem ren_none (cs : List Cm) (S : Nat → Bool) (h : ∀ i, i < cs.length → S i = false) : ren cs S = cs := by
  have : ren cs S = mk cs.length (cat cs) := mk_congr fun i hi => by rw [h i hi]; rfl
  rw [this, mk_self]
theorem ren_congr (cs : List Cm) {S S' : Nat → Bool} (h : ∀ i, i < cs.length → S i = S' i) : ren cs S = ren cs S' := mk_congr fun i hi => by rw [h i hi]

/-- The names behind the first loop of settle. -/
def aft (cs : List Cm) : List ByteArray := names (ren cs (rn cs))
theorem aft_len (cs : List Cm) : (aft cs).length = cs.length := by unfold aft; rw [names_len, ren_len]
theorem aft_at {cs : List Cm} {i : Nat} (h : i < cs.length) : sat (aft cs) i = if rn cs i then (cat cs i).name ++ suf else (cat cs i).name := by
  unfold aft
  rw [names_at, ren_at _ h]
  split <;> rfl

/-- The owners of a group but for claim i. -/
def own (cs : List Cm) (i : Nat) (g : List Nat) : List ByteArray := (g.filter fun j => j != i).map fun j => (cat cs j).owner
def grp (cs : List Cm) (i : Nat) : List Nat := top (aft cs) (rks cs) (sat (aft cs) i) cs.length
theorem own_take {cs : List Cm} {i t : Nat} {g : List Nat} (h : t < g.length) : own cs i (g.take (t + 1)) = if nat g t = i then own cs i (g.take t) else own cs i (g.take t) ++ [(cat cs (nat g t)).owner] := by
  have e : g.take (t + 1) = g.take t ++ [nat g t] := by
    rw [List.take_add_one]
    unfold nat
    rw [List.getD_eq_getElem?_getD, List.getElem?_eq_getElem h]
    rfl
  unfold own
  rw [e, List.filter_append]
  by_cases hx : nat g t = i
  · rw [if_pos hx]; simp [hx]
  · rw [if_neg hx]; simp [hx]
theorem own_all (cs : List Cm) (i : Nat) (g : List Nat) : own cs i (g.take g.length) = own cs i g := by rw [List.take_length]

def withR (c : Cm) (l : List ByteArray) : Cm := { c with rivals := c.rivals ++ l }
/-- The first k claims have got their rivals. -/
def stl (cs : List Cm) (k : Nat) : List Cm := mk cs.length fun i => if i < k then withR (cat (ren cs (rn cs)) i) (own cs i (grp cs i)) else cat (ren cs (rn cs)) i
theorem stl_len (cs : List Cm) (k : Nat) : (stl cs k).length = cs.length := mk_len _ _
theorem stl_zero (cs : List Cm) : stl cs 0 = ren cs (rn cs) := by
  have : stl cs 0 = mk (ren cs (rn cs)).length (cat (ren cs (rn cs))) := by
    rw [ren_len]
    exact mk_congr fun i _ => by rw [if_neg (by omega)]
  rw [this, mk_self]
/-- Claim k has got the first of its rivals. -/
def stlI (cs : List Cm) (k : Nat) (l : List ByteArray) : List Cm := mk cs.length fun i => if i = k then withR (cat (stl cs k) i) l else cat (stl cs k) i
theorem stlI_len (cs : List Cm) (k : Nat) (l : List ByteArray) : (stlI cs k l).length = cs.length := mk_len _ _
theorem withR_nil (c : Cm) : withR c [] = c := by unfold withR; simp
theorem stlI_nil (cs : List Cm) (k : Nat) : stlI cs k [] = stl cs k := by
  have : stlI cs k [] = mk (stl cs k).length (cat (stl cs k)) := by
    rw [stl_len]
    exact mk_congr fun i _ => by split <;> simp [withR_nil]
  rw [this, mk_self]
theorem stlI_all (cs : List Cm) (k : Nat) : stlI cs k (own cs k (grp cs k)) = stl cs (k + 1) := by
  refine mk_congr fun i hi => ?_
  unfold stl
  rw [mk_at _ hi]
  by_cases e : i = k
  · subst e
    rw [if_pos rfl, if_neg (by omega), if_pos (by omega)]
  · rw [if_neg e]
    by_cases e2 : i < k
    · rw [if_pos e2, if_pos (by omega)]
    · rw [if_neg e2, if_neg (by omega)]
end Go.Proofs.Qxb6617226a
