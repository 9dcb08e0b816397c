import Derived.Test.Qxb6617226aHigh
import Derived.Test.Qxb6617226aClmBytes
import Derived.Test.Qxb6617226aClmBig
import Derived.Deep.RegionHeld3
namespace Go.Proofs.Qxb6617226a
open Go.RowKit

theorem MapIs.len {w : World} {b : Nat} {m : List (ByteArray × Value)} {P : Program} {t k e : TypeId} (h : MapIs w b m) (ht : P.underlying t = some (.map k e)) (ty : TypeId) : (Builtin.len_ #[t] ty #[.map (some b)]).run P w = .ok (.int .i64 (m.length : Nat)) w := by
  obtain ⟨es, c, hb, hm, _⟩ := h
  have hl : es.size = m.length := by
    have := congrArg List.length hm
    simpa using this
  simp [Builtin.len_, run_underlying ht, MapKept.run_getObj_map hb, Result.andThen, goInt, hl]

theorem MapIs.below {w w' : World} {b : Nat} {m : List (ByteArray × Value)} (h : MapIs w b m) (hb : Below w.heap.size w w') : MapIs w' b m := h.of_block (hb.block _ h.lt)
theorem Grp.below {w w' : World} {B : Nat} {m : List (ByteArray × Value)} {h : List (ByteArray × List Nat)} (hg : Grp w B m h) (hb : Below w.heap.size w w') : Grp w' B m h := by
  refine hg.keep (fun p hp g hgb => ?_)
  obtain ⟨g2, e, _, h2⟩ := hg.mem p hp
  have e' : g = g2 := (Option.some.inj (e.symm.trans hgb)).symm
  rw [e']; exact hb.block g2 h2

/-- What a look-up in the map of groups gives. -/
theorem Grp.look {w : World} {B b : Nat} {m : List (ByteArray × Value)} {h : List (ByteArray × List Nat)} (hm : MapIs w b m) (hg : Grp w B m h) (x : ByteArray) :
    ∃ a c, IRow w a (hget h x) ∧ ∀ w', Below w.heap.size w w' → (Instr.lookup 26 (.map (some b)) (.string x) false).run Try.prog w' = .ok (.slice a (hget h x).length c) w' := by
  rcases hg.get x with ⟨h1, h2⟩ | ⟨v, h1, h2, _⟩
  · refine ⟨none, 0, ?_, fun w' hb => ?_⟩
    · rw [h2]; intro j hj; exact absurd hj (Nat.not_lt_zero _)
    · have := (hm.below hb).look (P := Try.prog) (t := 26) (k := 9) (e := 32) Try.underlying26 Try.underlying9 (zero32 _) x
      rw [h1] at this
      rw [h2]; exact this
  · obtain ⟨a, c, hv, hr, _⟩ := h2.row
    refine ⟨a, c, hr, fun w' hb => ?_⟩
    have := (hm.below hb).look (P := Try.prog) (t := 26) (k := 9) (e := 32) Try.underlying26 Try.underlying9 (zero32 _) x
    rw [h1, hv] at this
    exact this

theorem top15r (an : Option Addr) (cn : Nat) (ns : List ByteArray) (v : Value) (cs : List Cm) (x : ByteArray) (n : Nat) (l : List Nat) (nl : Nat) (w : World) (hn : Hid (cs.length = n)) (hnn : Hid (ns.length = n)) (hr : Hid (SRow w an ns)) (hP : Hid (K w v cs)) (hl : n ≤ 4096) (hll : Hid (top ns (rks cs) x n = l)) (hnl : Hid (l.length = nl)) :
    Calls Try.prog 15 #[.slice an n cn, v, .string x] w fun e w' => ∃ a c, e = .returned (.slice a nl c) ∧ Hid (IRow w' a l) ∧ Below w.heap.size w w' := by
  refine (top15 an cn ns v cs x n w hn hnn hr hP.out hl).mono ?_
  rintro e w1 ⟨u, rfl, ho, hb⟩
  obtain ⟨a, c, hu, hrr, _⟩ := ho.row
  rw [hll.out] at hu hrr
  rw [hnl.out] at hu
  exact ⟨a, c, by rw [hu], hrr, hb⟩

set_option maxHeartbeats 400000 in
theorem zhigh11 (g : Nat) (cs : List Cm) (F : Nat → Value) (n : Nat) (w : World) (hn : Hid (cs.length = n)) (hl : n ≤ 4096) (hB : Hid (BK w (.slice (some ⟨g, 0, none⟩) n n) cs F)) (hlo : Hid (∀ i, i < n → -9223372036854775808 ≤ (cat cs i).rank ∧ (cat cs i).rank ≤ 9223372036854775807)) :
    Calls Try.prog 11 #[.slice (some ⟨g, 0, none⟩) n n] w fun e w' => e = .returned (.map (some w.heap.size)) ∧ Hid (∃ m, MapIs w' w.heap.size m ∧ Grp w' (w.heap.size + 1) m (hi (names cs) (rks cs) n)) ∧ Below w.heap.size w w' := by
  go_enter Try.func11, Try.ntmps11
  go_wp2_with (go_at_call 37; refine (high37 g cs F n _ hn hl hB hlo.out).mono ?_; rintro e w1 ⟨rfl, hm, hb⟩)
  go_ret
  exact ⟨rfl, hm, hb⟩

set_option maxRecDepth 100000 in
set_option maxHeartbeats 2000000 in
theorem lawC (v : Value) (cs : List Cm) (w : World) (hP : K w v cs) :
    Calls Try.prog 3 #[v] w fun e w' => e = .returned (.bool true) ∧ Below w.heap.size w w' := by
  have HP : Hid (K w v cs) := hP
  clear hP
  go_enter Try.func3, Try.ntmps3
  go_wp2_with fail
  refine (bytes8 v cs _ HP.out).mono ?_
  rintro e w0 ⟨he, hw0⟩
  cases hw0
  rcases he with rfl | rfl
  · go_wp2_with fail
    refine (big9 v cs _ HP.out).mono ?_
    rintro e w0 ⟨he, hw0⟩
    cases hw0
    rcases he with rfl | ⟨rfl, hs⟩
    · go_wp2
      go_ret
      exact ⟨rfl, Below.refl _ _⟩
    · obtain ⟨n, hn0⟩ : ∃ n, cs.length = n := ⟨_, rfl⟩
      have HN : Hid (cs.length = n) := hn0
      have hn : n ≤ 4096 := by rw [← hn0]; exact hs.n
      clear hn0
      go_wp2_with fail
      refine (build10 v cs _ HP.out hs).mono ?_
      rintro e w1 ⟨u, F, rfl, hbk, hb1⟩
      obtain ⟨g, hu, hbk1, hbk2⟩ := hbk
      have HBK : Hid (BK w1 (.slice (some ⟨g, 0, none⟩) n n) cs F) := ⟨g, by rw [HN.out], hbk1, hbk2⟩
      rw [HN.out] at hu
      rw [hu]
      have HLo : Hid (∀ i, i < n → -9223372036854775808 ≤ (cat cs i).rank ∧ (cat cs i).rank ≤ 9223372036854775807) := by
        intro i hi
        obtain ⟨a, cap, _, _, hk⟩ := HP.out
        obtain ⟨b, off, ra, rc, _, h5⟩ := hk i (by rw [HN.out]; exact hi)
        exact ⟨h5.lo, h5.hi⟩
      clear hu hbk1 hbk2 hs
      go_wp2_with fail
      refine (zhigh11 g cs F n _ HN hn HBK HLo).mono ?_
      rintro e w2 ⟨rfl, hmap, hb2⟩
      have hb2' : Below w.heap.size w w2 := hb1.trans (hb2.mono hb1.size)
      go_wp2_with fail
      refine (names12 v cs n _ HN (HP.out.below hb2') hn).mono ?_
      rintro e w3 ⟨gn, rfl, hrn, hb3⟩
      have hb3' : Below w.heap.size w w3 := hb2'.trans (hb3.mono hb2'.size)
      obtain ⟨m, hm0, hg0⟩ := hmap.out
      have HM3 : Hid (MapIs w3 w1.heap.size m) := hm0.below hb3
      have HG3 : Hid (Grp w3 (w1.heap.size + 1) m (hi (names cs) (rks cs) n)) := hg0.below hb3
      have hlen := fun ty => HM3.out.len (P := Try.prog) (t := 26) (k := 9) (e := 32) Try.underlying26 ty
      have HML : Hid (m.length = (dd (names cs)).length) := by
        show _ = _
        rw [HG3.out.len, ← HN.out, ← names_len, hi_len]
      clear hmap hm0 hg0 HBK hb1 hb2 hb2' hb3
      have HNN : Hid ((names cs).length = n) := by show _ = _; rw [names_len]; exact HN.out
      go_wp2_with fail
      refine (distinct_any _ _ _ (names cs) _ HNN (by omega) (Nat.le_refl _) hrn).mono ?_
      rintro e w4 ⟨rfl, hb4⟩
      have hdi : (((m.length : Nat) : Int) != (((dd (names cs)).length : Nat) : Int)) = false := by rw [HML.out]; simp
      have hb4' : Below w.heap.size w w4 := hb3'.trans (hb4.mono hb3'.size)
      have HK4 : Hid (K w4 v cs) := HP.out.below hb4'
      have HM4 : Hid (MapIs w4 w1.heap.size m) := HM3.out.below hb4
      have HG4 : Hid (Grp w4 (w1.heap.size + 1) m (hi (names cs) (rks cs) n)) := HG3.out.below hb4
      have HS4 : Hid (SRow w4 (some ⟨gn, 0, none⟩) (names cs)) := hrn.out.below hb4
      obtain ⟨a0, cap0, hv, hln, hk⟩ := HK4.out
      rw [HN.out] at hv hk
      subst hv
      have HK : Hid (∀ i, i < n → ∃ b off ra rc, a0 = some ⟨b, off, none⟩ ∧ Five w4 b (off + i * 5) (cat cs i) ra rc) := hk
      clear hk hln
      go_wp2
      go_loopw [6] (fun i wr => ∃ k : Nat, k ≤ n ∧ i = .int .i64 k ∧ Below w4.heap.size w4 wr) (fun i _ => n - (intOf i).toNat)
      case atStart => exact ⟨0, Nat.zero_le _, rfl, Below.refl _ _⟩
      case round =>
        obtain ⟨i, hin, rfl, hbA⟩ := hrel
        rename World => wA
        by_cases hlt : i < n
        · obtain ⟨b, off, ra, rc, rfl, h5⟩ := HK.out i hlt
          have f0 := cell_later hbA h5.c0
          obtain ⟨s0, hs0⟩ : ∃ s, (cat cs i).name = s := ⟨_, rfl⟩
          rw [hs0] at f0
          clear h5 hs0
          obtain ⟨al, cl, hil, hlk⟩ := (HG4.out.below hbA).look (HM4.out.below hbA) s0
          rw [hi_get] at hil hlk
          obtain ⟨l, hll⟩ : ∃ l, top (names cs) (rks cs) s0 n = l := ⟨_, rfl⟩
          rw [hll] at hil hlk
          have HLL : Hid (top (names cs) (rks cs) s0 n = l) := hll
          have hnl : l.length ≤ n := by rw [← hll]; exact tops_len _ _ _ _ _
          clear hll
          obtain ⟨nl, hnl0⟩ : ∃ z, l.length = z := ⟨_, rfl⟩
          rw [hnl0] at hlk hnl
          have HNL : Hid (l.length = nl) := hnl0
          clear hnl0
          have HLK : Hid (∀ w', Below wA.heap.size wA w' → (Instr.lookup 26 (.map (some w1.heap.size)) (.string s0) false).run Try.prog w' = .ok (.slice al nl cl) w') := hlk
          have HIL : Hid (IRow wA al l) := hil
          clear hil hlk
          have hbD : Below w4.heap.size w4 wA.drew := ⟨hbA.os, hbA.tape, hbA.output, hbA.size, hbA.block⟩
          have hbE : Below wA.heap.size wA wA.drew := ⟨rfl, rfl, rfl, Nat.le_refl _, fun _ _ => rfl⟩
          have HSA : Hid (SRow wA.drew (some ⟨gn, 0, none⟩) (names cs)) := HS4.out.below hbD
          have HKA : Hid (K wA.drew (.slice (some ⟨b, off, none⟩) n cap0) cs) := HK4.out.below hbD
          have lk0 := HLK.out wA.drew hbE
          have e1 : (i : Int) < n := by omega
          go_wp2
          go_region_held3 (fun w' => w'.cell? ⟨b, off + i * 5, none⟩ = some (.string s0) ∧ (Instr.lookup 26 (.map (some w1.heap.size)) (.string s0) false).run Try.prog w' = .ok (.slice al nl cl) w') (first | go_keep | skip)
            (first | (go_at_call 15; refine (top15r (some ⟨gn, 0, none⟩) n (names cs) (.slice (some ⟨b, off, none⟩) n cap0) cs s0 n l nl _ HN HNN (by exact HSA) (by exact HKA) hn HLL HNL).mono ?_; rintro e w5 ⟨a5, c5, rfl, hr5, hb5⟩; have k0 := cell_later (w := wA.drew) hb5 f0; have k1 := HLK.out w5 ⟨hb5.os, hb5.tape, hb5.output, hb5.size, hb5.block⟩; have HI5 : Hid (IRow w5 al l) := HIL.out.below ⟨hb5.os, hb5.tape, hb5.output, hb5.size, hb5.block⟩) | (go_at_call 14; refine (eqInts_same al a5 nl cl c5 l _ HNL (by omega) (by exact HI5) (by exact hr5)).mono ?_; rintro e w6 ⟨rfl, q, rfl⟩; have k2 := HLK.out (w5.drewN q) (below_drewN (show Below wA.heap.size wA w5 from ⟨hb5.os, hb5.tape, hb5.output, hb5.size, hb5.block⟩) q)))
          go_wp2
          go_roundw
          case rel =>
            have hb5' : Below wA.heap.size wA w5 := ⟨hb5.os, hb5.tape, hb5.output, hb5.size, hb5.block⟩
            exact ⟨i + 1, by omega, by go_num, below_drewN (hbA.trans (hb5'.mono hbA.size)) q⟩
          case measure => simp [intOf]; omega
          have hb5' : Below wA.heap.size wA w5 := ⟨hb5.os, hb5.tape, hb5.output, hb5.size, hb5.block⟩
          exact ⟨⟨i + 1, by omega, by go_num, below_drewN (hbA.trans (hb5'.mono hbA.size)) q⟩, by simp [intOf]; omega⟩
        · go_wp2
          go_ret
          exact ⟨rfl, hb4'.trans (hbA.mono hb4'.size)⟩
  · go_wp2
    go_ret
    exact ⟨rfl, Below.refl _ _⟩
end Go.Proofs.Qxb6617226a
