import Derived.Test.Qxb6617226aBuilt
import Derived.Test.Qxb6617226aMap
namespace Go.Proofs.Qxb6617226a
open Go.RowKit

def tr (s : ByteArray) : ByteArray × Value := (s, .bool true)

theorem cf_at (L : List Cl) (k m : Nat) (h : m < 14) : cf L (k * 14 + m) = (clsv (nm L k) (ns L k)).getD m undef := by
  unfold cf
  rw [show (k * 14 + m) / 14 = k from by omega, show (k * 14 + m) % 14 = m from by omega]
theorem cls_cell {w : World} {g : Nat} {L : List Cl} {n k : Nat} {s : ByteArray} {b : Bool} (h : w.rowIs g 68 (n * 14) (cf L)) (hk : k < n) (m : Nat) (hm : m < 14) (hs : nm L k = s) (hb : ns L k = b) :
    w.cell? ⟨g, k * 14 + m, none⟩ = some ((clsv s b).getD m undef) := by
  rw [h.cell (by omega), cf_at L k m hm, hs, hb]

theorem zero4 (w : World) : (zeroValue 4).run Try.prog w = .ok (.bool false) w := by
  have hi : (Try.prog.info? 4).map (fun i => (i.zero, i.size, i.bytes)) = some (some (.bool false), 1, 1) := by kernel_rfl
  obtain ⟨i0, hi, hz0, hz1, hz2⟩ := info_parts hi
  simp [zeroValue, typeInfo, hi, hz0]

theorem mget_tr (acc : List ByteArray) (s : ByteArray) : (mget (acc.map tr) s).getD (.bool false) = .bool (has acc s) := by
  induction acc with
  | nil => rfl
  | cons a l ih =>
    simp only [List.map_cons, mget, tr]
    by_cases e : a = s
    · rw [if_pos e]; simp [has, e]
    · rw [if_neg e, ih]; simp [has, e]
theorem mput_tr (acc : List ByteArray) (s : ByteArray) (h : has acc s = false) : mput (acc.map tr) s (.bool true) = (acc ++ [s]).map tr := by
  induction acc with
  | nil => rfl
  | cons a l ih =>
    have h' : ¬ a = s ∧ has l s = false := by
      simp only [has, List.any_cons, Bool.or_eq_false_iff, decide_eq_false_iff_not] at h; exact h
    simp only [List.map_cons, mput, tr, List.cons_append]
    rw [if_neg h'.1]
    rw [show mput (List.map tr l) s (Value.bool true) = (l ++ [s]).map tr from ih h'.2]

theorem cls_step {w wX w3 : World} {xs : List ByteArray} {u : Value} (hbx : Below w.heap.size w wX) (hszx : w.heap.size < wX.heap.size) (hox : OwnS wX (w.heap.size + 1) u xs)
    (hblk : ∀ r, r ≠ w.heap.size → w3.heap[r]? = wX.heap[r]?) (hsz : w3.heap.size = wX.heap.size) (ho : w3.os = wX.os) (ht : w3.tape = wX.tape) (hp : w3.output = wX.output) :
    OwnS w3 (w.heap.size + 1) u xs ∧ Below w.heap.size w w3 := by
  have hg : wX.grownBy w3 (some w.heap.size) := ⟨ho, ht, hp, by omega, fun k _ hne => hblk k (fun e => hne (by rw [e]))⟩
  refine ⟨World.ownsRow.kept hox hg ?_, hbx.grown hg (by omega) (fun k e => by cases e; exact Nat.le_refl _)⟩
  cases hob : u.ownBlock with
  | none => exact Or.inl rfl
  | some g =>
    right
    intro e
    have := (World.ownsRow.lt hox g hob).1
    cases e
    omega
theorem cls_step2 {w w3 w4 : World} {xs : List ByteArray} {u : Value} {m : List (ByteArray × Value)} {o : Obj} (hb3 : Below w.heap.size w w3) (hlt : w.heap.size < w3.heap.size) (hown : OwnS w3 (w.heap.size + 1) u xs) (hm : MapIs w3 w.heap.size m)
    (hg : (w3.alloc o).grownBy w4 u.ownBlock) : MapIs w4 w.heap.size m ∧ Below w.heap.size w w4 ∧ w.heap.size < w4.heap.size := by
  have hs : (w3.alloc o).heap.size = w3.heap.size + 1 := by simp
  refine ⟨hm.of_block ?_, (hb3.alloc (by omega) o).grown hg (by omega) (fun k e => by have := (World.ownsRow.lt hown k e).1; omega), ?_⟩
  · rw [hg.block _ (by omega) (fun e => by have := (World.ownsRow.lt hown _ e.symm).1; omega), Below.heap_alloc _ _ _ hlt]
  · have := hg.size; omega

set_option maxRecDepth 100000 in
set_option maxHeartbeats 2000000 in
theorem run40 (v : Value) (P : List (List (List Cl))) (w : World) (hP : PB w v P) (hs : Small P) :
    Calls Try.prog 40 #[v] w fun e w' => ∃ u, e = .returned u ∧ OwnS w' (w.heap.size + 1) u (gP dstep [] P P.length) ∧ Below w.heap.size w w' := by
  obtain ⟨i0, hi, hz0, hz1, hz2⟩ := info_parts Try.info9
  obtain ⟨ga, offa, capa, rfl, hl, _, hk⟩ := hP
  have HK : Hid (∀ i, i < P.length → ∃ u, w.cell? ⟨ga, offa + i, none⟩ = some u ∧ MB w (fun _ => True) u (at2 P i)) := hk
  clear hk
  obtain ⟨n, hn⟩ : ∃ n, P.length = n := ⟨_, rfl⟩
  rw [hn] at HK hl ⊢
  have HN : Hid (P.length = n) := hn
  clear hn
  have hmm := @run_makeMap Try.prog
  go_enter Try.func40, Try.ntmps40
  go_wp2
  go_loopw [3, 14] (fun o i wr => ∃ (k : Nat), k ≤ n ∧ i = .int .i64 k ∧ Hid (OwnS wr (w.heap.size + 1) o (gP dstep [] P k)) ∧ Hid (MapIs wr w.heap.size ((gP dstep [] P k).map tr)) ∧ Below w.heap.size w wr ∧ w.heap.size < wr.heap.size) (fun _ i _ => n - (intOf i).toNat)
  case atStart => exact ⟨0, Nat.zero_le _, rfl, World.ownsRow_nil _ _ _ _, MapIs.made w, (Below.refl _ _).alloc (Nat.le_refl _) _, by simp⟩
  case round =>
    obtain ⟨i, hin, rfl, hown, hmap, hb, hsz⟩ := hrel
    by_cases hlt : i < n
    · obtain ⟨u, hc', gb, rfl, _, fG, hrb', hk1⟩ := HK.out i hlt
      have hc := cell_later hb hc'
      obtain ⟨n1, hn1⟩ : ∃ n1, (at2 P i).length = n1 := ⟨_, rfl⟩
      rw [hn1] at hk1 hc hc' hrb'
      have HN1 : Hid ((at2 P i).length = n1) := hn1
      clear hn1
      have HRB : Hid (w.rowIs gb 69 n1 fG) := hrb'
      have HK1 : Hid (∀ j, j < n1 → HB w (fun _ => True) (fG j) (at1 (at2 P i) j)) := hk1
      clear hk1 hrb'
      have hl1 : n1 ≤ 1048576 := by rw [← HN1.out]; exact hs.m i (by rw [HN.out]; exact hlt)
      go_wp2
      go_loopw [3, 20] (fun o j wr => ∃ (k : Nat), k ≤ n1 ∧ j = .int .i64 k ∧ Hid (OwnS wr (w.heap.size + 1) o (gM dstep (gP dstep [] P i) (at2 P i) k)) ∧ Hid (MapIs wr w.heap.size ((gM dstep (gP dstep [] P i) (at2 P i) k).map tr)) ∧ Below w.heap.size w wr ∧ w.heap.size < wr.heap.size) (fun _ j _ => n1 - (intOf j).toNat)
      case atStart => exact ⟨0, Nat.zero_le _, rfl, by rw [gM_zero]; exact hown, by rw [gM_zero]; exact hmap, hb, hsz⟩
      case round =>
        obtain ⟨j, hjn, rfl, hown1, hmap1, hb1, hsz1⟩ := hrel
        rename World => wB
        by_cases hlt1 : j < n1
        · obtain ⟨hh, gc, hv, _, _, hch', hRc'⟩ := HK1.out j hlt1
          have hcB := cell_later hb1 (HRB.out.cell hlt1)
          rw [hv] at hcB
          have hch := cell_later hb1 hch'
          obtain ⟨n2, hn2⟩ : ∃ n2, (at1 (at2 P i) j).length = n2 := ⟨_, rfl⟩
          rw [hn2] at hch hch' hRc'
          have HN2 : Hid ((at1 (at2 P i) j).length = n2) := hn2
          clear hn2
          have HV : Hid (fG j = .pointer (some ⟨hh, 0, none⟩)) := hv
          clear hv
          have HRc : Hid (w.rowIs gc 68 (n2 * 14) (cf (at1 (at2 P i) j))) := hRc'
          clear hRc'
          have e2 : (j : Int) < n1 := by omega
          have hl2 : n2 ≤ 1048576 := by rw [← HN2.out]; exact inner_small P hs i j (by rw [HN.out]; exact hlt) (by rw [HN1.out]; exact hlt1)
          go_wp2
          go_loopw [3, 29] (fun o k' wr => ∃ (k : Nat), k ≤ n2 ∧ k' = .int .i64 k ∧ Hid (OwnS wr (w.heap.size + 1) o (gL dstep (gM dstep (gP dstep [] P i) (at2 P i) j) (at1 (at2 P i) j) k)) ∧ Hid (MapIs wr w.heap.size ((gL dstep (gM dstep (gP dstep [] P i) (at2 P i) j) (at1 (at2 P i) j) k).map tr)) ∧ Below w.heap.size w wr ∧ w.heap.size < wr.heap.size) (fun _ j _ => n2 - (intOf j).toNat)
          case atStart => exact ⟨0, Nat.zero_le _, rfl, by rw [gL_zero]; exact hown1, by rw [gL_zero]; exact hmap1, hb1, hsz1⟩
          case round =>
            obtain ⟨k, hkn, rfl, hown2, hmap2, hb2, hsz2⟩ := hrel
            rename World => wC
            by_cases hlt2 : k < n2
            · have hRc : Hid (wC.rowIs gc 68 (n2 * 14) (cf (at1 (at2 P i) j))) := HRc.out.of_block (hb2.block _ HRc.out.lt)
              have hlen := in_len slow_d P hs i j k (by rw [HN.out]; exact hlt) (by rw [HN1.out]; exact hlt1) (by rw [HN2.out]; exact hlt2)
              have HG := gL_succ dstep (gM dstep (gP dstep [] P i) (at2 P i) j) (at1 (at2 P i) j) k (by rw [HN2.out]; exact hlt2)
              obtain ⟨xs, hxs⟩ : ∃ xs, gL dstep (gM dstep (gP dstep [] P i) (at2 P i) j) (at1 (at2 P i) j) k = xs := ⟨_, rfl⟩
              rw [hxs] at HG hlen hown2 hmap2
              clear hxs
              obtain ⟨s0, hs0⟩ : ∃ s0, nm (at1 (at2 P i) j) k = s0 := ⟨_, rfl⟩
              obtain ⟨b0, hb0⟩ : ∃ b0, ns (at1 (at2 P i) j) k = b0 := ⟨_, rfl⟩
              have HS0 : Hid (nm (at1 (at2 P i) j) k = s0) := hs0
              have HB0 : Hid (ns (at1 (at2 P i) j) k = b0) := hb0
              clear hs0 hb0
              have fa0 : wC.cell? ⟨gc, k * 14, none⟩ = some (.string s0) := cls_cell hRc.out hlt2 0 (by decide) HS0.out HB0.out
              have fa1 : wC.cell? ⟨gc, k * 14 + 1, none⟩ = some (.string { data := #[] }) := cls_cell hRc.out hlt2 1 (by decide) HS0.out HB0.out
              have fa2 : wC.cell? ⟨gc, k * 14 + 2, none⟩ = some (.slice none 0 0) := cls_cell hRc.out hlt2 2 (by decide) HS0.out HB0.out
              have fa3 : wC.cell? ⟨gc, k * 14 + 3, none⟩ = some (.bool b0) := cls_cell hRc.out hlt2 3 (by decide) HS0.out HB0.out
              have fa4 : wC.cell? ⟨gc, k * 14 + 4, none⟩ = some (.bool false) := cls_cell hRc.out hlt2 4 (by decide) HS0.out HB0.out
              have fa5 : wC.cell? ⟨gc, k * 14 + 5, none⟩ = some (.slice none 0 0) := cls_cell hRc.out hlt2 5 (by decide) HS0.out HB0.out
              have fa6 : wC.cell? ⟨gc, k * 14 + 6, none⟩ = some (.bool false) := cls_cell hRc.out hlt2 6 (by decide) HS0.out HB0.out
              have fa7 : wC.cell? ⟨gc, k * 14 + 7, none⟩ = some (.bool false) := cls_cell hRc.out hlt2 7 (by decide) HS0.out HB0.out
              have fa8 : wC.cell? ⟨gc, k * 14 + 8, none⟩ = some (.bool false) := cls_cell hRc.out hlt2 8 (by decide) HS0.out HB0.out
              have fa9 : wC.cell? ⟨gc, k * 14 + 9, none⟩ = some (.bool false) := cls_cell hRc.out hlt2 9 (by decide) HS0.out HB0.out
              have fa10 : wC.cell? ⟨gc, k * 14 + 10, none⟩ = some (.slice none 0 0) := cls_cell hRc.out hlt2 10 (by decide) HS0.out HB0.out
              have fa11 : wC.cell? ⟨gc, k * 14 + 11, none⟩ = some (.slice none 0 0) := cls_cell hRc.out hlt2 11 (by decide) HS0.out HB0.out
              have fa12 : wC.cell? ⟨gc, k * 14 + 12, none⟩ = some (.bool false) := cls_cell hRc.out hlt2 12 (by decide) HS0.out HB0.out
              have fa13 : wC.cell? ⟨gc, k * 14 + 13, none⟩ = some (.slice none 0 0) := cls_cell hRc.out hlt2 13 (by decide) HS0.out HB0.out
              have e3 : (k : Int) < n2 := by omega
              have hbx : Below w.heap.size w (wC.alloc (.cells #[.string s0, .string { data := #[] }, .slice none 0 0, .bool b0, .bool false, .slice none 0 0, .bool false, .bool false, .bool false, .bool false, .slice none 0 0, .slice none 0 0, .bool false, .slice none 0 0] 68)) := hb2.alloc (by omega) _
              have hmx : MapIs (wC.alloc (.cells #[.string s0, .string { data := #[] }, .slice none 0 0, .bool b0, .bool false, .slice none 0 0, .bool false, .bool false, .bool false, .bool false, .slice none 0 0, .slice none 0 0, .bool false, .slice none 0 0] 68)) w.heap.size (xs.map tr) := hmap2.out.of_block (Below.heap_alloc _ _ _ hsz2)
              have hox : OwnS (wC.alloc (.cells #[.string s0, .string { data := #[] }, .slice none 0 0, .bool b0, .bool false, .slice none 0 0, .bool false, .bool false, .bool false, .bool false, .slice none 0 0, .slice none 0 0, .bool false, .slice none 0 0] 68)) (w.heap.size + 1) u3 xs := World.ownsRow.alloc hown2.out _
              cases b0 with
              | true =>
                have HG' : Hid (gL dstep (gM dstep (gP dstep [] P i) (at2 P i) j) (at1 (at2 P i) j) (k + 1) = xs) := by show _ = _; rw [HG, dstep_no _ _ _ HB0.out]
                clear HG
                go_wp2
                go_roundw
                case rel => exact ⟨k + 1, by omega, by go_num, by rw [HG'.out]; exact hox, by rw [HG'.out]; exact hmx, hbx, by simp; omega⟩
                case measure => simp [intOf]; omega
              | false =>
                have hlook := hmx.look (P := Try.prog) (t := 72) (k := 9) (e := 4) Try.underlying72 Try.underlying9 (zero4 _) s0
                rw [mget_tr] at hlook
                cases hhas : has xs s0 with
                | true =>
                  rw [hhas] at hlook
                  have HG' : Hid (gL dstep (gM dstep (gP dstep [] P i) (at2 P i) j) (at1 (at2 P i) j) (k + 1) = xs) := by show _ = _; rw [HG, dstep_in _ _ _ HB0.out (by rw [HS0.out]; exact hhas)]
                  clear HG hhas
                  go_wp2
                  go_roundw
                  case rel => exact ⟨k + 1, by omega, by go_num, by rw [HG'.out]; exact hox, by rw [HG'.out]; exact hmx, hbx, by simp; omega⟩
                  case measure => simp [intOf]; omega
                | false =>
                  rw [hhas] at hlook
                  have HG' : Hid (gL dstep (gM dstep (gP dstep [] P i) (at2 P i) j) (at1 (at2 P i) j) (k + 1) = xs ++ [s0]) := by show _ = _; rw [HG, dstep_yes _ _ _ HB0.out (by rw [HS0.out]; exact hhas), HS0.out]
                  obtain ⟨w3, hput, hm3, hblk3, hsz3, ho3, ht3, hp3⟩ := hmx.put (P := Try.prog) (t := 72) (k := 9) (e := 4) Try.underlying72 Try.underlying9 s0 (.bool true)
                  rw [mput_tr _ _ hhas] at hm3
                  clear HG hhas
                  have hcx : w3.cell? ⟨wC.heap.size, 0, none⟩ = some (.string s0) := by
                    rw [World.cell?_of_block (w := wC.alloc (.cells #[.string s0, .string { data := #[] }, .slice none 0 0, .bool false, .bool false, .slice none 0 0, .bool false, .bool false, .bool false, .bool false, .slice none 0 0, .slice none 0 0, .bool false, .slice none 0 0] 68)) (hblk3 wC.heap.size (by omega)), World.cell?_alloc_new]; rfl
                  have hst := cls_step hbx (by simp; omega) hox hblk3 hsz3 ho3 ht3 hp3
                  have HO3 : Hid (OwnS w3 (w.heap.size + 1) u3 xs) := hst.1
                  have hb3 := hst.2
                  have hz3 : w.heap.size < w3.heap.size := by rw [hsz3]; simp; omega
                  have HM3 : Hid (MapIs w3 w.heap.size ((xs ++ [s0]).map tr)) := hm3
                  clear hst hm3 hblk3 ho3 ht3 hp3 hsz3 hbx hmx hox
                  go_wp2_with (at_builtin; refine wpList_append_own _ rfl _ _ 28 rfl (w.heap.size + 1) 9 i0 (.string ByteArray.empty) 1 16 Try.underlying28 hi hz0 hz1 hz2 rfl (by decide) _ _ _ rfl (World.ownsRow.alloc HO3.out _) ⟨w3.heap.size, 0, none⟩ 1 1 [.string s0] rfl rfl ?c1 ?c2 ?c3 ?c4 ?c5 ?_)
                  case c1 => exact cell_one_new _ _ _
                  case c2 => intro u hu; simp at hu; subst hu; rfl
                  case c3 => unfold maxLen; omega
                  case c4 => omega
                  case c5 => simp; omega
                  intro v' w4 hown' hgrow _
                  have R : Hid (OwnS w4 (w.heap.size + 1) v' (xs ++ [s0])) := OwnS.snoc hown'
                  have R2 := cls_step2 hb3 hz3 HO3.out HM3.out hgrow
                  have HM4 : Hid (MapIs w4 w.heap.size ((xs ++ [s0]).map tr)) := R2.1
                  have hb4 := R2.2.1
                  have hz4 := R2.2.2
                  clear hown' hgrow R2 hcx hput hlook
                  go_wp2
                  go_roundw
                  case rel => exact ⟨k + 1, by omega, by go_num, by rw [HG'.out]; exact R, by rw [HG'.out]; exact HM4, hb4, hz4⟩
                  case measure => simp [intOf]; omega
            · have hke : n2 = k := by omega
              subst hke
              go_wp2
              go_roundw
              case rel => exact ⟨j + 1, by omega, by go_num, by rw [gM_succ _ _ _ _ (by rw [HN1.out]; exact hlt1), HN2.out]; exact hown2, by rw [gM_succ _ _ _ _ (by rw [HN1.out]; exact hlt1), HN2.out]; exact hmap2, hb2, hsz2⟩
              case measure => simp [intOf]; omega
        · have hje : n1 = j := by omega
          subst hje
          go_wp2
          go_roundw
          case rel => exact ⟨i + 1, by omega, by go_num, by rw [gP_succ _ _ _ _ (by rw [HN.out]; exact hlt), HN1.out]; exact hown1, by rw [gP_succ _ _ _ _ (by rw [HN.out]; exact hlt), HN1.out]; exact hmap1, hb1, hsz1⟩
          case measure => simp [intOf]; omega
    · have hie : n = i := by omega
      subst hie
      go_wp2
      go_ret
      exact ⟨_, rfl, hown.out, hb⟩
end Go.Proofs.Qxb6617226a
