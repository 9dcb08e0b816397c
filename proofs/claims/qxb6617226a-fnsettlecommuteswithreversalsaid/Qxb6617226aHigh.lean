import Derived.Test.Qxb6617226aGrp
import Derived.Test.Qxb6617226aClmBuild
namespace Go.Proofs.Qxb6617226a
open Go.RowKit

theorem claim_cell {w : World} {g n k : Nat} {cs : List Cm} {F : Nat → Value} {c : Cm} {v : Value} (h : w.rowIs g 39 (n * 5) (ccell cs F n)) (hk : k < n) (m : Nat) (hm : m < 5) (hc : cat cs k = c) (hv : F k = v) :
    w.cell? ⟨g, k * 5 + m, none⟩ = some ((c5 c v).getD m undef) := by
  rw [h.cell (by omega), ccell_at cs F n k m hk hm, hc, hv]

theorem OwnS.slice {w : World} {B : Nat} {v : Value} {xs : List ByteArray} (h : OwnS w B v xs) : ∃ a c, v = .slice a xs.length c := by
  obtain ⟨h1, h2 | ⟨g, cap, cur, hv, _⟩⟩ := h
  · exact ⟨none, 0, by rw [h2.1, h2.2]⟩
  · exact ⟨_, _, hv⟩

theorem nat_head (l : List Nat) : l.headD 0 = nat l 0 := by cases l <;> rfl

theorem step_append_own_at {P : Program} (w : World) {ops : Array Oper} {o : Oper} {a : Act} {K : Act → World → Prop} {Q : Exit → Act → World → Prop} {E : Prop} (hgd : o.guard = none) (s x : Operand) (t : TypeId)
    (ho : o.op = .call { callee := .builtin .append, args := #[s, x], argTypes := #[t, t] })
    (base : Nat) (e : TypeId) (i : TypeInfo) (z : Value) (size bytes : Nat) (ht : P.underlying t = some (.slice e)) (hi : P.info? e = some i) (hz : i.zero = some z)
    (hsize : i.size = size) (hby : i.bytes = bytes) (hzs : z.cells.size = size) (hsz : 0 < size)
    (v : Value) (n : Nat) (xs : List Value) (hs : a.eval s = v) (hown : w.ownsRow base e size v n xs)
    (ad : Addr) (m c : Nat) (news : List Value) (hx : a.eval x = .slice (some ad) m c) (hl : news.length = m * size) (hnews : ∀ j u, news[j]? = some u → w.cell? (ad.add j) = some u) (h1 : ∀ u ∈ news, u.oneCell' = true)
    (h63 : n + m ≤ maxLen) (hbytes : (n + m) * bytes ≤ 140737488355328) (hbase : base ≤ w.heap.size)
    (h : ∀ v' w', w'.ownsRow base e size v' (n + m) (xs ++ news) → w.grownBy w' v.ownBlock → (v' = .slice none 0 0 ↔ v = .slice none 0 0 ∧ m = 0) → (v'.ownBlock = v.ownBlock ∨ v'.ownBlock = some w.heap.size) → K (a.put o.dst v') w') :
    if Region.wanted o (yielded ops a.tmps) = true then Oper.wp P o a w K Q else E := by
  have hw : Region.wanted o (yielded ops a.tmps) = true := by simp [Region.wanted, hgd]
  rw [if_pos hw]
  obtain ⟨v', w', hr, h2, h3, h4, h5⟩ := run_append_own_at (P := P) w base t o.type e i z size bytes ht hi hz hsize hby hzs hsz v n xs hown ad m c news hl hnews h1 h63 hbytes hbase
  unfold Oper.wp execOp
  simp only [ho, resolve, invoke, builtin, Sem.run_bind, Sem.run_pure, Result.andThen_ok, List.map_toArray, List.map_cons, List.map_nil, hs, hx, hr]
  exact h v' w' h2 h3 h4 h5

theorem one_new5 (wC : World) (o : Obj) (q k : Nat) : ∀ j u, [Value.int .i64 (k : Int)][j]? = some u → (((wC.alloc o).drewN q).alloc (.cells #[.int .i64 (k : Int)] 3)).cell? ((⟨wC.heap.size + 1, 0, none⟩ : Addr).add j) = some u := by
  have := cell_one_new ((wC.alloc o).drewN q) (.int .i64 (k : Int)) 3
  have hs : ((wC.alloc o).drewN q).heap.size = wC.heap.size + 1 := by simp
  rw [hs] at this
  exact this

theorem high_app {w wC W w2 : World} {m : List (ByteArray × Value)} {h : List (ByteArray × List Nat)} {s0 : ByteArray} {k nl bv ov cv : Nat} {v v' : Value} {l : List Nat} (hb : Below w.heap.size w wC) (hsz : w.heap.size < wC.heap.size) (HM : MapIs wC w.heap.size m) (HG : Grp wC (w.heap.size + 1) m h)
    (hgv : mget m s0 = some v) (hv : v = .slice (some ⟨bv, ov, none⟩) l.length cv) (hbv : bv < wC.heap.size) (hW : Below wC.heap.size wC W) (hWs : W.heap.size = wC.heap.size + 2)
    (hox : W.ownsRow (w.heap.size + 1) 3 1 (.slice (some ⟨bv, ov, none⟩) nl cv) nl (l.map fun j : Nat => Value.int .i64 (j : Int))) (hc5 : W.cell? ⟨wC.heap.size, 0, none⟩ = some (.string s0))
    (hown' : w2.ownsRow (w.heap.size + 1) 3 1 v' (nl + 1) ((l.map fun j : Nat => Value.int .i64 (j : Int)) ++ [.int .i64 (k : Int)])) (hgrow : W.grownBy w2 (Value.ownBlock (.slice (some ⟨bv, ov, none⟩) nl cv)))
    (hat : v'.ownBlock = Value.ownBlock (.slice (some ⟨bv, ov, none⟩) nl cv) ∨ v'.ownBlock = some W.heap.size) (hnl : l.length = nl) :
    ∃ w3, (Instr.mapUpdate 26 (.map (some w.heap.size)) (.string s0) v').run Try.prog w2 = .ok () w3 ∧ w2.cell? ⟨wC.heap.size, 0, none⟩ = some (.string s0) ∧ w3.cell? ⟨wC.heap.size, 0, none⟩ = some (.string s0) ∧
      Below w.heap.size w w3 ∧ w.heap.size < w3.heap.size ∧ Hid (∃ m', MapIs w3 w.heap.size m' ∧ Grp w3 (w.heap.size + 1) m' (hput h s0 (l ++ [k]))) := by
  subst hnl
  have hob : Value.ownBlock (.slice (some ⟨bv, ov, none⟩) l.length cv) = some bv := rfl
  rw [hob] at hgrow hat
  have hvb : v.ownBlock = some bv := by rw [hv]; rfl
  have hbvB : w.heap.size + 1 ≤ bv := (World.ownsRow.lt hox bv rfl).1
  have hm2 : MapIs w2 w.heap.size m := (HM.of_block (hW.block _ hsz)).of_block (hgrow.block _ (by omega) (fun e => by cases e; omega))
  obtain ⟨w3, hput, hm3, hblk3, hsz3, ho3, ht3, hp3⟩ := hm2.put (P := Try.prog) (t := 26) (k := 9) (e := 32) Try.underlying26 Try.underlying9 s0 v'
  have hg3 : w2.grownBy w3 (some w.heap.size) := ⟨ho3, ht3, hp3, by omega, fun q _ hne => hblk3 q (fun e => hne (by rw [e]))⟩
  have hc2 : w2.cell? ⟨wC.heap.size, 0, none⟩ = some (.string s0) := hgrow.cell hc5 (fun e => by have : wC.heap.size = bv := Option.some.inj e; omega)
  have hc3 : w3.cell? ⟨wC.heap.size, 0, none⟩ = some (.string s0) := hg3.cell hc2 (fun e => by have : wC.heap.size = w.heap.size := Option.some.inj e; omega)
  have hs2 := hgrow.size
  have hb2 : Below w.heap.size w w2 := (hb.trans (hW.mono (by omega))).grown hgrow (by omega) (fun q e => by cases e; omega)
  have hb3 : Below w.heap.size w w3 := hb2.grown hg3 (by omega) (fun q e => by cases e; exact Nat.le_refl _)
  have hO3 : OwnI w3 (w.heap.size + 1) v' (l ++ [k]) := by
    have h2 : OwnI w2 (w.heap.size + 1) v' (l ++ [k]) := OwnI.snoc hown'
    refine h2.keep (fun g' hg' => hblk3 g' ?_)
    have := (World.ownsRow.lt h2 g' hg').1
    omega
  refine ⟨w3, hput, hc2, hc3, hb3, by omega, _, hm3, HG.put (fun p hp hne g' hg' => ?_) hO3 (by simp) (fun p hp hne e => ?_)⟩
  · obtain ⟨g2, e, h1, h2⟩ := HG.mem p hp
    have e' : g' = g2 := (Option.some.inj (e.symm.trans hg')).symm
    have hap := HG.apart hgv p hp hne
    rw [e, hvb] at hap
    have hne2 : g2 ≠ bv := fun h => hap (by rw [h])
    rw [e', hblk3 g2 (by omega), hgrow.block g2 (by omega) (fun h => hne2 (by cases h; rfl)), hW.block g2 h2]
  · obtain ⟨g2, e2, h1, h2⟩ := HG.mem p hp
    rcases hat with hat | hat
    · exact HG.apart hgv p hp hne (by rw [e, hat, hvb])
    · rw [hat, e2] at e
      have := Option.some.inj e
      omega

theorem high_new {w wC W w2 : World} {m : List (ByteArray × Value)} {h : List (ByteArray × List Nat)} {s0 : ByteArray} {k : Nat} (hb : Below w.heap.size w wC) (hsz : w.heap.size < wC.heap.size) (HG : Grp wC (w.heap.size + 1) m h)
    (hW : Below wC.heap.size wC W) (hWs : W.heap.size = wC.heap.size + 2) (hWr : W.heap[wC.heap.size + 1]? = some (.cells #[.int .i64 (k : Int)] 3 (0, 0)))
    (hm2 : MapIs w2 w.heap.size (mput m s0 (.slice (some ⟨wC.heap.size + 1, 0, none⟩) 1 1))) (hg : W.grownBy w2 (some w.heap.size)) :
    Below w.heap.size w w2 ∧ w.heap.size < w2.heap.size ∧ Hid (∃ m', MapIs w2 w.heap.size m' ∧ Grp w2 (w.heap.size + 1) m' (hput h s0 [k])) := by
  have hs2 := hg.size
  have old : ∀ g, g < W.heap.size → g ≠ w.heap.size → w2.heap[g]? = W.heap[g]? := fun g h1 h2 => hg.block g h1 (fun e => h2 (by cases e; rfl))
  refine ⟨(hb.trans (hW.mono (by omega))).grown hg (by omega) (fun q e => by cases e; exact Nat.le_refl _), by omega, _, hm2, HG.put (fun p hp _ g' hg' => ?_) ?_ (by simp) (fun p hp _ e => ?_)⟩
  · obtain ⟨g2, e, h1, h2⟩ := HG.mem p hp
    have e' : g' = g2 := (Option.some.inj (e.symm.trans hg')).symm
    rw [e', old g2 (by omega) (by omega), hW.block g2 h2]
  · refine ⟨by simp, Or.inr ⟨wC.heap.size + 1, 1, #[.int .i64 (k : Int)], rfl, by omega, ?_, Nat.le_refl _, by unfold maxLen; omega, by simp, by simp⟩⟩
    rw [old _ (by omega) (by omega), hWr]
  · obtain ⟨g2, e2, h1, h2⟩ := HG.mem p hp
    rw [e2] at e
    simp only [Value.ownBlock, Option.some.injEq] at e
    omega
theorem high_same {w wC W : World} {m : List (ByteArray × Value)} {h : List (ByteArray × List Nat)} (hb : Below w.heap.size w wC) (hsz : w.heap.size < wC.heap.size) (HM : MapIs wC w.heap.size m) (HG : Grp wC (w.heap.size + 1) m h) (hW : Below wC.heap.size wC W) :
    Below w.heap.size w W ∧ w.heap.size < W.heap.size ∧ Hid (∃ m', MapIs W w.heap.size m' ∧ Grp W (w.heap.size + 1) m' h) := by
  have := hW.size
  refine ⟨hb.trans (hW.mono (by omega)), by omega, m, HM.of_block (hW.block _ hsz), HG.keep (fun p hp g' hg' => ?_)⟩
  obtain ⟨g2, e, h1, h2⟩ := HG.mem p hp
  have e' : g' = g2 := (Option.some.inj (e.symm.trans hg')).symm
  rw [e']
  exact hW.block g2 h2

theorem high_row (wC : World) (o : Obj) (q k : Nat) : (((wC.alloc o).drewN q).alloc (.cells #[.int .i64 (k : Int)] 3)).heap[wC.heap.size + 1]? = some (.cells #[.int .i64 (k : Int)] 3 (0, 0)) := by
  show (((wC.heap.push o).push _))[wC.heap.size + 1]? = _
  rw [Array.getElem?_push]
  simp

set_option maxRecDepth 100000 in
set_option maxHeartbeats 2000000 in
theorem high37 (g : Nat) (cs : List Cm) (F : Nat → Value) (n : Nat) (w : World) (hn : Hid (cs.length = n)) (hl : n ≤ 4096) (hB : Hid (BK w (.slice (some ⟨g, 0, none⟩) n n) cs F)) (hlo : ∀ i, i < n → -9223372036854775808 ≤ (cat cs i).rank ∧ (cat cs i).rank ≤ 9223372036854775807) :
    Calls Try.prog 37 #[.slice (some ⟨g, 0, none⟩) n n] w fun e w' => e = .returned (.map (some w.heap.size)) ∧ Hid (∃ m, MapIs w' w.heap.size m ∧ Grp w' (w.heap.size + 1) m (hi (names cs) (rks cs) n)) ∧ Below w.heap.size w w' := by
  have HLo : Hid (∀ i, i < n → -9223372036854775808 ≤ (cat cs i).rank ∧ (cat cs i).rank ≤ 9223372036854775807) := hlo
  clear hlo
  obtain ⟨i0, hi0, hz0, hz1, hz2⟩ := info_parts Try.info3
  have hRK : Hid (w.rowIs g 39 (n * 5) (ccell cs F n)) := by
    obtain ⟨g', hv, hr, _⟩ := hB.out
    rw [hn.out] at hv hr
    simp only [Value.slice.injEq, Option.some.injEq, Addr.mk.injEq, and_true] at hv
    rw [hv]; exact hr
  have hRiv : Hid (∀ i, i < n → ∃ a c, F i = .slice a (cat cs i).rivals.length c) := by
    obtain ⟨g', hv, _, hr⟩ := hB.out
    intro i hi
    rw [hn.out] at hr
    exact (hr.1 i hi).slice
  clear hB
  have hmm := @run_makeMap Try.prog
  go_enter Try.func37, Try.ntmps37
  go_wp2
  go_loopw [10] (fun i wr => ∃ (k : Nat), k ≤ n ∧ i = .int .i64 k ∧ Below w.heap.size w wr ∧ w.heap.size < wr.heap.size ∧ Hid (∃ m, MapIs wr w.heap.size m ∧ Grp wr (w.heap.size + 1) m (hi (names cs) (rks cs) k))) (fun i _ => n - (intOf i).toNat)
  case atStart => exact ⟨0, Nat.zero_le _, rfl, (Below.refl _ _).alloc (Nat.le_refl _) _, by simp, ⟨[], MapIs.made w, trivial⟩⟩
  case round =>
    obtain ⟨k, hkn, rfl, hb, hsz, hM⟩ := hrel
    rename World => wC
    by_cases hlt : k < n
    · have hRc : Hid (wC.rowIs g 39 (n * 5) (ccell cs F n)) := hRK.out.of_block (hb.block _ hRK.out.lt)
      have hgl : g < wC.heap.size := hRc.out.lt
      obtain ⟨fa, fc, hFv⟩ := hRiv.out k hlt
      obtain ⟨⟨s0, o0, b0, r0, rv0⟩, hci⟩ : ∃ c, cat cs k = c := ⟨_, rfl⟩
      have hrk0 := HLo.out k hlt
      rw [hci] at hFv hrk0
      simp only at hFv hrk0
      obtain ⟨fl, hfl⟩ : ∃ z, rv0.length = z := ⟨_, rfl⟩
      rw [hfl] at hFv
      have HFv : Hid (F k = .slice fa fl fc) := hFv
      have HC : Hid (cat cs k = ⟨s0, o0, b0, r0, rv0⟩) := hci
      have HNm : Hid (sat (names cs) k = s0) := by show _ = _; rw [names_at, hci]
      have HRk : Hid (rks cs k = r0) := by show (cat cs k).rank = _; rw [hci]
      clear hFv hci hfl
      have fa0 : wC.cell? ⟨g, k * 5, none⟩ = some (.string s0) := claim_cell hRc.out hlt 0 (by decide) HC.out HFv.out
      have fa1 : wC.cell? ⟨g, k * 5 + 1, none⟩ = some (.string o0) := claim_cell hRc.out hlt 1 (by decide) HC.out HFv.out
      have fa2 : wC.cell? ⟨g, k * 5 + 2, none⟩ = some (.bool b0) := claim_cell hRc.out hlt 2 (by decide) HC.out HFv.out
      have fa3 : wC.cell? ⟨g, k * 5 + 3, none⟩ = some (.int .i64 r0) := claim_cell hRc.out hlt 3 (by decide) HC.out HFv.out
      have fa4 : wC.cell? ⟨g, k * 5 + 4, none⟩ = some (.slice fa fl fc) := claim_cell hRc.out hlt 4 (by decide) HC.out HFv.out
      have e3 : (k : Int) < n := by omega
      obtain ⟨m, hmap, hgrp⟩ := hM.out
      have hmx : MapIs (wC.alloc (.cells #[.string s0, .string o0, .bool b0, .int .i64 r0, .slice fa fl fc] 39)) w.heap.size m := hmap.of_block (Below.heap_alloc _ _ _ hsz)
      have hlook := hmx.look (P := Try.prog) (t := 26) (k := 9) (e := 32) Try.underlying26 Try.underlying9 (zero32 _) s0
      have HM : Hid (MapIs wC w.heap.size m) := hmap
      have HG : Hid (Grp wC (w.heap.size + 1) m (hi (names cs) (rks cs) k)) := hgrp
      clear hmx hM
      have HHi : Hid (hi (names cs) (rks cs) (k + 1) = if hget (hi (names cs) (rks cs) k) s0 = [] ∨ rks cs ((hget (hi (names cs) (rks cs) k) s0).headD 0) < r0 then hput (hi (names cs) (rks cs) k) s0 [k] else if r0 = rks cs ((hget (hi (names cs) (rks cs) k) s0).headD 0) then hput (hi (names cs) (rks cs) k) s0 (hget (hi (names cs) (rks cs) k) s0 ++ [k]) else hi (names cs) (rks cs) k) := by
        show _ = _
        rw [← HNm.out, ← HRk.out]; rfl
      rcases hgrp.get s0 with ⟨hg1, hg2⟩ | ⟨v, hg1, hg2, hg3⟩
      · rw [hg1] at hlook
        simp only [Option.getD_none] at hlook
        have HX : Hid (hi (names cs) (rks cs) (k + 1) = hput (hi (names cs) (rks cs) k) s0 [k]) := by show _ = _; rw [HHi.out, if_pos (Or.inl hg2)]
        clear hg1 hg2 hmap hgrp
        go_wp2_with fail
        go_quiet (fail)
        go_wp2_with (at_mapUpdate; refine wpList_put _ rfl _ _ _ 26 rfl 9 32 Try.underlying26 Try.underlying9 w.heap.size m rfl ?hm s0 rfl _ rfl ?_)
        case hm => exact HM.out.of_block (Eq.trans (Below.heap_alloc _ _ _ (by simp; omega)) (Below.heap_alloc wC (.cells #[.string s0, .string o0, .bool b0, .int .i64 r0, .slice fa fl fc] 39) _ hsz))
        intro w2 hm2 hgr2 hsz2
        have R := high_new (W := ((wC.alloc (.cells #[.string s0, .string o0, .bool b0, .int .i64 r0, .slice fa fl fc] 39)).drewN nq).alloc (.cells #[.int .i64 (k : Int)] 3)) hb hsz HG.out ((below_drewN ((Below.refl _ _).alloc (Nat.le_refl _) _) nq).alloc (by simp) _) (by simp) (by rw [← high_row wC (.cells #[.string s0, .string o0, .bool b0, .int .i64 r0, .slice fa fl fc] 39) nq k]) hm2 hgr2
        clear hm2 hgr2 hsz2
        go_wp2
        go_roundw
        case rel => exact ⟨k + 1, by omega, by go_num, R.1, R.2.1, by rw [HX.out]; exact R.2.2⟩
        case measure => simp [intOf]; omega
      · obtain ⟨av, cv, hv, hiv, hcv⟩ := hg2.row
        rw [hg1, hv] at hlook
        simp only [Option.getD_some] at hlook
        obtain ⟨l, hl0⟩ : ∃ l, hget (hi (names cs) (rks cs) k) s0 = l := ⟨_, rfl⟩
        rw [hl0] at hg2 hg3 hv hiv hcv hlook
        have hHL : Hid (hget (hi (names cs) (rks cs) k) s0 = l) := hl0
        have hlp : 0 < l.length := by cases l with
          | nil => exact absurd rfl hg3
          | cons _ _ => simp
        obtain ⟨bv, ov, hav, hcv0⟩ := hiv 0 hlp
        cases hav
        have hin0 : nat l 0 < k := by
          rw [← nat_head]
          have : l.headD 0 ∈ top (names cs) (rks cs) s0 k := by rw [← hi_get, hl0]; exact headD_mem hg3
          exact top_lt _ _ _ _ _ this
        have hbv : bv < wC.heap.size := World.block_lt_of_cell? _ _ hcv0
        have hcq : wC.cell? ⟨g, nat l 0 * 5 + 3, none⟩ = some (.int .i64 (rks cs (nat l 0))) := claim_cell hRc.out (by omega) 3 (by decide) rfl rfl
        have hq : ((l.length : Int) == 0) = false := by simp; omega
        have e4 : (0 : Int) < l.length := by omega
        have e5 : ((nat l 0 : Nat) : Int) < n := by omega
        rw [Nat.add_zero] at hcv0
        have hx0 : l.headD 0 = nat l 0 := nat_head l
        have HNil : Hid (l ≠ []) := hg3
        have HOI : Hid (OwnI wC (w.heap.size + 1) v l) := hg2
        have HGV : Hid (mget m s0 = some v) := hg1
        have HV : Hid (v = .slice (some ⟨bv, ov, none⟩) l.length cv) := hv
        have HX1 : Hid (l.headD 0 = nat l 0) := hx0
        obtain ⟨r1, hr1⟩ : ∃ r, rks cs (nat l 0) = r := ⟨_, rfl⟩
        rw [hr1] at hcq
        have HR1 : Hid (rks cs (nat l 0) = r1) := hr1
        obtain ⟨i1, hi1⟩ : ∃ r, nat l 0 = r := ⟨_, rfl⟩
        rw [hi1] at hcq hcv0 e5 hin0
        have HI1 : Hid (nat l 0 = i1) := hi1
        obtain ⟨nl, hnl⟩ : ∃ r, l.length = r := ⟨_, rfl⟩
        have hbd1 := HLo.out i1 (by omega)
        have hr1' : (cat cs i1).rank = r1 := by rw [← hi1] ; exact hr1
        rw [hr1'] at hbd1
        rw [hnl] at hlook hq e4 hcv
        have HNL : Hid (l.length = nl) := hnl
        clear hg1 hg2 hg3 hv hl0 hmap hgrp hx0 hr1 hi1 hiv hlp hnl hr1'
        by_cases hgt : r1 < r0
        · have HX : Hid (hi (names cs) (rks cs) (k + 1) = hput (hi (names cs) (rks cs) k) s0 [k]) := by show _ = _; rw [HHi.out, if_pos (Or.inr (by rw [hHL.out, HX1.out, HR1.out]; exact hgt))]
          go_wp2_with fail
          go_quiet (fail)
          go_wp2_with (at_mapUpdate; refine wpList_put _ rfl _ _ _ 26 rfl 9 32 Try.underlying26 Try.underlying9 w.heap.size m rfl ?hm s0 rfl _ rfl ?_)
          case hm => exact HM.out.of_block (Eq.trans (Below.heap_alloc _ _ _ (by simp; omega)) (Below.heap_alloc wC (.cells #[.string s0, .string o0, .bool b0, .int .i64 r0, .slice fa fl fc] 39) _ hsz))
          intro w2 hm2 hgr2 hsz2
          have R := high_new (W := ((wC.alloc (.cells #[.string s0, .string o0, .bool b0, .int .i64 r0, .slice fa fl fc] 39)).drewN nq).alloc (.cells #[.int .i64 (k : Int)] 3)) hb hsz HG.out ((below_drewN ((Below.refl _ _).alloc (Nat.le_refl _) _) nq).alloc (by simp) _) (by simp) (by rw [← high_row wC (.cells #[.string s0, .string o0, .bool b0, .int .i64 r0, .slice fa fl fc] 39) nq k]) hm2 hgr2
          clear hm2 hgr2 hsz2
          go_wp2
          go_roundw
          case rel => exact ⟨k + 1, by omega, by go_num, R.1, R.2.1, by rw [HX.out]; exact R.2.2⟩
          case measure => simp [intOf]; omega
        · by_cases heq : r0 = r1
          · have heq' : (r0 == r1) = true := by simpa using heq
            have HEQ : Hid (r0 = r1) := heq
            clear heq
            have HX : Hid (hi (names cs) (rks cs) (k + 1) = hput (hi (names cs) (rks cs) k) s0 (l ++ [k])) := by
              show _ = _
              rw [HHi.out, if_neg (by
                rintro (h | h)
                · rw [hHL.out] at h; exact HNil.out h
                · rw [hHL.out, HX1.out, HR1.out, HEQ.out] at h; omega), if_pos (by rw [hHL.out, HX1.out, HR1.out]; exact HEQ.out), hHL.out]
            go_wp2_with fail
            go_quiet (fail)
            rename Nat => q1
            go_wp2_with fail
            go_quiet (fail)
            go_wp2_with fail
            have hcx : (((wC.alloc (.cells #[.string s0, .string o0, .bool b0, .int .i64 r0, .slice fa fl fc] 39)).drewN q1).drewN nq).cell? ⟨wC.heap.size, 0, none⟩ = some (.string s0) := World.cell?_alloc_new _ _ _ _
            have HOX : Hid (World.ownsRow (((wC.alloc (.cells #[.string s0, .string o0, .bool b0, .int .i64 r0, .slice fa fl fc] 39)).drewN (q1 + nq + 1)).alloc (.cells #[.int .i64 (k : Int)] 3)) (w.heap.size + 1) 3 1 (.slice (some ⟨bv, ov, none⟩) nl cv) nl (l.map fun j : Nat => Value.int .i64 (j : Int))) := by
              have := HOI.out
              rw [HV.out] at this
              unfold OwnI at this
              rw [HNL.out] at this
              exact World.ownsRow.alloc (World.ownsRow.alloc this (.cells #[.string s0, .string o0, .bool b0, .int .i64 r0, .slice fa fl fc] 39)) _
            have hlen : nl ≤ 4096 := by
              have h1 := tops_len (names cs) (rks cs) s0 (bst (names cs) (rks cs) s0 k).2 k
              have h2 : l.length ≤ k := by rw [← hHL.out, hi_get]; exact h1
              rw [HNL.out] at h2; omega
            have hBe5 : Hid (Below wC.heap.size wC (((wC.alloc (.cells #[.string s0, .string o0, .bool b0, .int .i64 r0, .slice fa fl fc] 39)).drewN (q1 + nq + 1)).alloc (.cells #[.int .i64 (k : Int)] 3))) := (below_drewN ((Below.refl _ _).alloc (Nat.le_refl _) (.cells #[.string s0, .string o0, .bool b0, .int .i64 r0, .slice fa fl fc] 39)) _).alloc (by simp) _
            have hSz5 : Hid ((((wC.alloc (.cells #[.string s0, .string o0, .bool b0, .int .i64 r0, .slice fa fl fc] 39)).drewN (q1 + nq + 1)).alloc (.cells #[.int .i64 (k : Int)] 3)).heap.size = wC.heap.size + 2) := by show _ = _; simp
            have hc5 : Hid ((((wC.alloc (.cells #[.string s0, .string o0, .bool b0, .int .i64 r0, .slice fa fl fc] 39)).drewN (q1 + nq + 1)).alloc (.cells #[.int .i64 (k : Int)] 3)).cell? ⟨wC.heap.size, 0, none⟩ = some (.string s0)) := by
              show _ = _
              rw [World.cell?_alloc_past _ _ _ (by simp)]; exact World.cell?_alloc_new _ _ _ _
            go_region_held3 (fun w' => w'.cell? ⟨wC.heap.size, 0, none⟩ = some (.string s0)) (first | exact hc5.out | assumption | go_keep) (first | (refine step_append_own_at _ rfl _ _ 32 rfl (w.heap.size + 1) 3 i0 (.int .i64 0) 1 8 Try.underlying32 hi0 hz0 hz1 hz2 rfl (by decide) _ _ _ rfl HOX.out ⟨wC.heap.size + 1, 0, none⟩ 1 1 [.int .i64 (k : Int)] rfl rfl (by exact one_new5 wC (.cells #[.string s0, .string o0, .bool b0, .int .i64 r0, .slice fa fl fc] 39) _ _) (by intro u hu; simp at hu; subst hu; rfl) (by unfold maxLen; omega) (by omega) (by simp; omega) ?_; intro v' w2 hown' hgrow _ hat; have hA := high_app hb hsz HM.out HG.out HGV.out HV.out hbv hBe5.out hSz5.out HOX.out hc5.out hown' hgrow hat (by rw [HNL.out]); obtain ⟨w3, hput, hc2, hc3, hfin⟩ := hA; have HFin : Hid _ := hfin; clear hfin hown' hgrow hat))
            go_wp2
            go_roundw
            case rel => exact ⟨k + 1, by omega, by go_num, HFin.out.1, HFin.out.2.1, by rw [HX.out]; exact HFin.out.2.2⟩
            case measure => simp [intOf]; omega
          · have heq' : (r0 == r1) = false := by simpa using heq
            have HX : Hid (hi (names cs) (rks cs) (k + 1) = hi (names cs) (rks cs) k) := by
              show _ = _
              rw [HHi.out, if_neg (by
                rintro (h | h)
                · rw [hHL.out] at h; exact HNil.out h
                · rw [hHL.out, HX1.out, HR1.out] at h; omega), if_neg (by rw [hHL.out, HX1.out, HR1.out]; exact heq)]
            clear heq
            go_wp2_with fail
            go_quiet (fail)
            rename Nat => q1
            go_wp2_with fail
            go_quiet (fail)
            go_wp2
            go_roundw
            case rel =>
              have R := high_same (W := (wC.alloc (.cells #[.string s0, .string o0, .bool b0, .int .i64 r0, .slice fa fl fc] 39)).drewN (q1 + nq)) hb hsz HM.out HG.out (below_drewN ((Below.refl _ _).alloc (Nat.le_refl _) (.cells #[.string s0, .string o0, .bool b0, .int .i64 r0, .slice fa fl fc] 39)) _)
              exact ⟨k + 1, by omega, by go_num, R.1, R.2.1, by rw [HX.out]; exact R.2.2⟩
            case measure => simp [intOf]; omega
    · have hke : n = k := by omega
      subst hke
      go_wp2
      go_ret
      exact ⟨rfl, hM, hb⟩
end Go.Proofs.Qxb6617226a
