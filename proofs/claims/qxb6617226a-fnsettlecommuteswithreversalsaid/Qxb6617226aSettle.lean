/- settle. -/
import Derived.Test.Qxb6617226aStl
import Derived.Test.Qxb6617226aLawC
import Derived.Deep.RegionLaw
namespace Go.Proofs.Qxb6617226a
open Go.RowKit

set_option maxRecDepth 100000 in
set_option maxHeartbeats 2000000 in
theorem settle38 (g : Nat) (cs : List Cm) (F : Nat → Value) (n : Nat) (w : World) (hn : Hid (cs.length = n)) (hl : n ≤ 4096) (hB : Hid (BK w (.slice (some ⟨g, 0, none⟩) n n) cs F))
    (hlo : Hid (∀ i, i < n → -9223372036854775808 ≤ (cat cs i).rank ∧ (cat cs i).rank ≤ 9223372036854775807)) (hz : Hid (∀ i, i < n → (cat cs i).name.size ≤ 1048576)) (hrl : Hid (∀ i, i < n → (cat cs i).rivals.length ≤ 1048576)) :
    Calls Try.prog 38 #[.slice (some ⟨g, 0, none⟩) n n] w fun e w' => e = .returned (.tuple #[]) ∧ Hid (∃ F', BK w' (.slice (some ⟨g, 0, none⟩) n n) (stl cs n) F' ∧ Fr w w' g F n F') := by
  have hRK : Hid (w.rowIs g 39 (n * 5) (ccell cs F n)) := by
    obtain ⟨g', hv, hr, _⟩ := hB.out
    rw [hn.out] at hv hr
    simp only [Value.slice.injEq, Option.some.injEq, Addr.mk.injEq, and_true] at hv
    rw [hv]; exact hr
  have HRiv : Hid (Riv w (g + 1) cs F n) := by
    obtain ⟨g', hv, _, hr⟩ := hB.out
    rw [hn.out] at hv hr
    simp only [Value.slice.injEq, Option.some.injEq, Addr.mk.injEq, and_true] at hv
    rw [hv]; exact hr
  have hgl : g < w.heap.size := hRK.out.lt
  obtain ⟨i0, hi0, hz0, hz1, hz2⟩ := info_parts Try.info9
  go_enter Try.func38, Try.ntmps38
  go_wp2_with fail
  refine (high37 g cs F n _ hn hl hB hlo.out).mono ?_
  rintro e wH ⟨rfl, hM, hbH⟩
  obtain ⟨m, hm, hG⟩ := hM.out
  have HG : Hid (Grp wH (w.heap.size + 1) m (hi (names cs) (rks cs) n)) := hG
  obtain ⟨wR, hrange, ⟨o, hwR⟩, cnt0, hRg⟩ := hm.range (P := Try.prog) (t := 26) (k := 9) (e := 32) Try.underlying26
  have HRg0 : Hid (Rg wR w.heap.size wH.heap.size m (fun _ => false) cnt0) := hRg
  have HGr0 : Hid (wH.grownBy wR (some g)) := by rw [hwR]; exact World.grownBy_alloc _ _ _
  have HRow0 : Hid (wR.rowIs g 39 (n * 5) (ccell (ren cs (T cs fun _ => false)) F n)) := by
    rw [T_none, hwR]
    exact (hRK.out.of_block (hbH.block _ hgl)).alloc _
  clear hm hG hM hRg hwR
  go_wp2
  go_loopw [] (fun wr => ∃ S cnt, Hid (Rg wr w.heap.size wH.heap.size m S cnt) ∧ Hid (wH.grownBy wr (some g)) ∧ Hid (wr.rowIs g 39 (n * 5) (ccell (ren cs (T cs S)) F n))) (fun wr => rleft wr w.heap.size wH.heap.size)
  case atStart => exact ⟨_, _, HRg0, HGr0, HRow0⟩
  case round =>
    obtain ⟨S, cnt, hRg, hGr, hRow⟩ := hrel
    rename World => wA
    go_wp2_with (at_next; refine wpList_next_rg _ rfl _ rfl w.heap.size wH.heap.size m S cnt rfl hRg.out ?_ ?_)
    · intro hS
      have HRowE : Hid (wA.rowIs g 39 (n * 5) (ccell (stl cs 0) F n)) := by
        rw [stl_zero, ← T_all cs S (all_came (by rw [hn.out]; exact HG.out) (fun p hp => hS p.1 p.2 hp))]
        exact hRow.out
      have hgrA : w.grownBy wA (some g) := by
        have k := hGr.out
        exact ⟨k.os.trans hbH.os, k.tape.trans hbH.tape, k.output.trans hbH.output, Nat.le_trans hbH.size k.size, fun x hx hne => (k.block x (Nat.lt_of_lt_of_le hx hbH.size) hne).trans (hbH.block x hx)⟩
      have HGrA : Hid (w.grownBy wA (some g)) := hgrA
      have HRivE : Hid (Riv wA (g + 1) (stl cs 0) F n) := HRiv.out.same (fun b hb hlt => hgrA.block b hlt (fun e => by cases e; omega)) (fun i _ => by rw [stl_zero]; exact ren_riv _ _ _)
      have HN' : Hid ((stl cs 0).length = n) := by show _ = _; rw [stl_len]; exact hn.out
      have HBE : Hid (BK wA (.slice (some ⟨g, 0, none⟩) n n) (stl cs 0) F) := ⟨g, by rw [HN'.out], by rw [HN'.out]; exact HRowE.out, by rw [HN'.out]; exact HRivE.out⟩
      have HLoE : Hid (∀ i, i < n → -9223372036854775808 ≤ (cat (stl cs 0) i).rank ∧ (cat (stl cs 0) i).rank ≤ 9223372036854775807) := fun i hi => by rw [stl_zero, ren_rank]; exact hlo.out i hi
      clear hS hRg hGr hRow hgrA HRg0 HGr0 HRow0 hrange
      go_wp2_with fail
      refine (high37 g (stl cs 0) F n _ HN' hl HBE HLoE.out).mono ?_
      rintro e w2 ⟨rfl, hM2, hb2⟩
      have HM2 : Hid (∃ m, MapIs w2 wA.heap.size m ∧ Grp w2 (wA.heap.size + 1) m (hi (aft cs) (rks cs) n)) := by
        have := hM2.out
        rw [stl_zero, ren_rks] at this
        exact this
      have hsA := HGrA.out.size
      have HRow2 : Hid (w2.rowIs g 39 (n * 5) (ccell (stl cs 0) F n)) := HRowE.out.of_block (hb2.block _ (by omega))
      have HRiv2 : Hid (Riv w2 (g + 1) (stl cs 0) F n) := HRivE.out.kept (fun b _ hlt => hb2.block b hlt)
      have HFr2 : Hid (Fr w w2 g F n F) := (Fr.of_grown HGrA.out).after hb2
      have HFl : Hid (∀ i, i < n → ∀ b, (F i).ownBlock = some b → b < w.heap.size) := fun i hi b hb => (World.ownsRow.lt (HRiv.out.1 i hi) b hb).2
      clear hM2 HBE HLoE HRowE HRivE
      go_wp2
      go_loopw [61] (fun i wr => ∃ k : Nat, k ≤ n ∧ i = .int .i64 k ∧ Hid (∃ F1, Fr w2 wr g F n F1 ∧ wr.rowIs g 39 (n * 5) (ccell (stl cs k) F1 n) ∧ Riv wr (g + 1) (stl cs k) F1 n)) (fun i _ => n - (intOf i).toNat)
      case atStart => exact ⟨0, Nat.zero_le _, rfl, F, Fr.refl _ _ _ _, HRow2.out, HRiv2.out⟩
      case round =>
        obtain ⟨k, hkn, rfl, hF1⟩ := hrel
        rename World => wC
        by_cases hlt : k < n
        · obtain ⟨F1, hFr, hrow, hriv⟩ := hF1.out
          have HFrC : Hid (Fr w2 wC g F n F1) := hFr
          have HRowC : Hid (wC.rowIs g 39 (n * 5) (ccell (stl cs k) F1 n)) := hrow
          have HRivC : Hid (Riv wC (g + 1) (stl cs k) F1 n) := hriv
          have hgC : g < wC.heap.size := hrow.lt
          obtain ⟨fa, fc, hFv⟩ := (hriv.1 k hlt).slice
          have HNm0 : Hid ((cat (stl cs k) k).name = sat (aft cs) k) := by
            show _ = _
            unfold stl
            rw [mk_at _ (by rw [hn.out]; exact hlt), if_neg (by omega), aft, names_at]
          obtain ⟨⟨s0, o0, b0, r0, rv0⟩, hci⟩ : ∃ c, cat (stl cs k) k = c := ⟨_, rfl⟩
          rw [hci] at hFv HNm0
          simp only at hFv HNm0
          obtain ⟨fl, hfl⟩ : ∃ z, rv0.length = z := ⟨_, rfl⟩
          rw [hfl] at hFv
          have HFv : Hid (F1 k = .slice fa fl fc) := hFv
          have HC : Hid (cat (stl cs k) k = ⟨s0, o0, b0, r0, rv0⟩) := hci
          clear hFv hci hfl hF1 hFr hrow hriv
          have fa0 : wC.cell? ⟨g, k * 5, none⟩ = some (.string s0) := claim_cell HRowC.out hlt 0 (by decide) HC.out HFv.out
          have fa1 : wC.cell? ⟨g, k * 5 + 1, none⟩ = some (.string o0) := claim_cell HRowC.out hlt 1 (by decide) HC.out HFv.out
          have fa2 : wC.cell? ⟨g, k * 5 + 2, none⟩ = some (.bool b0) := claim_cell HRowC.out hlt 2 (by decide) HC.out HFv.out
          have fa3 : wC.cell? ⟨g, k * 5 + 3, none⟩ = some (.int .i64 r0) := claim_cell HRowC.out hlt 3 (by decide) HC.out HFv.out
          have fa4 : wC.cell? ⟨g, k * 5 + 4, none⟩ = some (.slice fa fl fc) := claim_cell HRowC.out hlt 4 (by decide) HC.out HFv.out
          have e3 : (k : Int) < n := by omega
          obtain ⟨m2, hm2, hg2⟩ := HM2.out
          obtain ⟨al, cl, hfar⟩ := Grp.far hm2 hg2 hsA (Nat.le_succ_of_le hsA) s0
          rw [hi_get] at hfar
          obtain ⟨l, hll⟩ : ∃ l, top (aft cs) (rks cs) s0 n = l := ⟨_, rfl⟩
          rw [hll] at hfar
          have HLG : Hid (grp cs k = l) := by show _ = _; rw [← hll]; unfold grp; rw [hn.out, HNm0.out]
          have HLT : Hid (∀ j ∈ l, j < n) := fun j hj => by rw [← hll] at hj; exact top_lt _ _ _ _ _ hj
          have hnlb : l.length ≤ n := by rw [← hll]; exact tops_len _ _ _ _ _
          clear hll hm2 hg2
          obtain ⟨nl, hnl0⟩ : ∃ z, l.length = z := ⟨_, rfl⟩
          rw [hnl0] at hfar hnlb
          have HNL : Hid (l.length = nl) := hnl0
          clear hnl0
          have HFar : Hid (∀ (w' : World) (F' : Nat → Value), Fr w2 w' g F n F' → IRow w' al l ∧ (Instr.lookup 26 (.map (some wA.heap.size)) (.string s0) false).run Try.prog w' = .ok (.slice al nl cl) w') := fun w' F' h => hfar w' (h.high hgl HFl.out)
          clear hfar
          have HFrD : Hid (Fr w2 (wC.alloc (.cells #[.string s0, .string o0, .bool b0, .int .i64 r0, .slice fa fl fc] 39)) g F n F1) := HFrC.out.after ((Below.refl _ _).alloc (Nat.le_refl _) _)
          have HRowD : Hid ((wC.alloc (.cells #[.string s0, .string o0, .bool b0, .int .i64 r0, .slice fa fl fc] 39)).rowIs g 39 (n * 5) (ccell (stl cs k) F1 n)) := HRowC.out.alloc _
          have HRivD : Hid (Riv (wC.alloc (.cells #[.string s0, .string o0, .bool b0, .int .i64 r0, .slice fa fl fc] 39)) (g + 1) (stl cs k) F1 n) := HRivC.out.kept (fun b _ hlt => Below.heap_alloc _ _ _ hlt)
          have hlook := (HFar.out _ _ HFrD.out).2
          go_wp2
          go_loopw [71] (fun i wr => ∃ t : Nat, t ≤ nl ∧ i = .int .i64 t ∧ Hid (∃ F1, Fr w2 wr g F n F1 ∧ wr.rowIs g 39 (n * 5) (ccell (stlI cs k (own cs k (l.take t))) F1 n) ∧ Riv wr (g + 1) (stlI cs k (own cs k (l.take t))) F1 n)) (fun i _ => nl - (intOf i).toNat)
          case atStart =>
            refine ⟨0, Nat.zero_le _, rfl, F1, HFrD.out, ?_, ?_⟩
            · have : stlI cs k (own cs k (l.take 0)) = stl cs k := stlI_nil _ _
              rw [this]; exact HRowD.out
            · have : stlI cs k (own cs k (l.take 0)) = stl cs k := stlI_nil _ _
              rw [this]; exact HRivD.out
          case round =>
            obtain ⟨t, htn, rfl, hF2⟩ := hrel
            rename World => wI
            clear HFrC HRowC HRivC HFrD HRowD HRivD hlook fa0 fa1 fa2 fa3 fa4 HFv HC
            by_cases hltt : t < nl
            · obtain ⟨F2, hFr, hrow, hriv⟩ := hF2.out
              have HFrI : Hid (Fr w2 wI g F n F2) := hFr
              obtain ⟨bl, ol, hal, hcl⟩ := (HFar.out wI F2 hFr).1 t (by rw [HNL.out]; exact hltt)
              subst hal
              have hgI : g < wI.heap.size := hrow.lt
              have hjn := HLT.out _ (nat_mem (by rw [HNL.out]; exact hltt))
              have HOT : Hid (own cs k (l.take (t + 1)) = if nat l t = k then own cs k (l.take t) else own cs k (l.take t) ++ [(cat cs (nat l t)).owner]) := own_take (by rw [HNL.out]; exact hltt)
              obtain ⟨j, hj0⟩ : ∃ j, nat l t = j := ⟨_, rfl⟩
              rw [hj0] at hcl hjn HOT
              clear hj0
              have e4 : (t : Int) < nl := by omega
              have e5 : (j : Int) < n := by omega
              by_cases hjk : j = k
              · have R : Hid (∃ F1, Fr w2 wI g F n F1 ∧ wI.rowIs g 39 (n * 5) (ccell (stlI cs k (own cs k (l.take (t + 1)))) F1 n) ∧ Riv wI (g + 1) (stlI cs k (own cs k (l.take (t + 1)))) F1 n) := by
                  rw [HOT.out, if_pos hjk]; exact hF2.out
                subst hjk
                have d1 : ((j : Int) != (j : Int)) = false := by simp
                clear hFr hrow hriv hF2 HOT
                go_wp2
                go_roundw
                case rel => exact ⟨t + 1, by omega, by go_num, R⟩
                case measure => simp [intOf]; omega
              · have d1 : ((j : Int) != (k : Int)) = true := by simp; omega
                have HX : Hid (own cs k (l.take (t + 1)) = own cs k (l.take t) ++ [(cat cs j).owner]) := by show _ = _; rw [HOT.out, if_neg hjk]
                have hol := own_len cs k (l.take t)
                rw [List.length_take] at hol
                obtain ⟨x, hx0⟩ : ∃ x, own cs k (l.take t) = x := ⟨_, rfl⟩
                rw [hx0] at hrow hriv HX hol
                have hrv : (cat (stlI cs k x) k).rivals = (cat cs k).rivals ++ x := stlI_rivals (by rw [hn.out]; exact hlt)
                have hrlk := hrl.out k hlt
                have HRowI : Hid (wI.rowIs g 39 (n * 5) (ccell (stlI cs k x) F2 n)) := hrow
                have HRivI : Hid (Riv wI (g + 1) (stlI cs k x) F2 n) := hriv
                obtain ⟨ra, rc, hFv⟩ := (hriv.1 k hlt).slice
                obtain ⟨rl, hrl0⟩ : ∃ z, (cat (stlI cs k x) k).rivals.length = z := ⟨_, rfl⟩
                have hrlb : rl ≤ 1052672 := by rw [← hrl0, hrv, List.length_append]; omega
                have HOW : Hid (wI.ownsRow (g + 1) 9 1 (.slice ra rl rc) rl ((cat (stlI cs k x) k).rivals.map Value.string)) := by
                  have := hriv.1 k hlt
                  unfold OwnS at this
                  rw [hFv, hrl0] at this
                  exact this
                rw [hrl0] at hFv
                have HRL : Hid ((cat (stlI cs k x) k).rivals.length = rl) := hrl0
                have HFv : Hid (F2 k = .slice ra rl rc) := hFv
                have k4 : wI.cell? ⟨g, k * 5 + 4, none⟩ = some (.slice ra rl rc) := claim_cell hrow hlt 4 (by decide) rfl hFv
                have k1 : wI.cell? ⟨g, j * 5 + 1, none⟩ = some (.string (cat cs j).owner) := by
                  have := claim_cell hrow hjn 1 (by decide) rfl rfl
                  rw [this]
                  show some (Value.string (cat (stlI cs k x) j).owner) = _
                  rw [stlI_owner (by rw [hn.out]; exact hjn)]
                obtain ⟨ow, how⟩ : ∃ z, (cat cs j).owner = z := ⟨_, rfl⟩
                rw [how] at k1 HX
                have HJ : Hid (∀ i, i < n → (cat (stlI cs k x) i).owner = (cat cs i).owner) := fun i hi => stlI_owner (by rw [hn.out]; exact hi)
                have HOJ : Hid ((cat cs j).owner = ow) := how
                clear hFr hrow hriv hF2 HOT hx0 hrv hFv hrl0 how hrlk hol
                have HBW : Hid (∀ q, Below wI.heap.size wI ((wI.drewN q).alloc (.cells #[.string ow] 9))) := fun q => (below_drewN (Below.refl _ _) q).alloc (Nat.le_refl _) _
                go_wp2_with fail
                go_region_law (refine step_append_own_at _ rfl _ _ 28 rfl (g + 1) 9 i0 (.string ByteArray.empty) 1 16 Try.underlying28 hi0 hz0 hz1 hz2 rfl (by decide) _ _ _ rfl (World.ownsRow.alloc HOW.out _) ⟨wI.heap.size, 0, none⟩ 1 1 [.string ow] rfl rfl (cell_one_new _ _ _) (by intro u hu; simp at hu; subst hu; rfl) (by unfold maxLen; omega) (by omega) (by simp; omega) ?_; intro v' w3 hown' hgrow _ hat; obtain ⟨a', c', hv'⟩ := app_slice hown'; subst hv'; rw [← HFv.out] at hgrow hat; have hA := riv_step (cs2 := stlI cs k (x ++ [ow])) HFrI.out HRowI.out HRivI.out hlt (by exact HBW.out _) (by simp) HRL.out hown' hgrow hat (fun i hi => stlI_snoc hn.out i hi hlt); obtain ⟨⟨p4, p4f, _⟩, HFin⟩ := hA; clear hown' hgrow hat)
                all_goals
                  go_wp2
                  go_roundw
                  case rel => exact ⟨t + 1, by omega, by go_num, _, by rw [HX.out]; exact HFin.out⟩
                  case measure => simp [intOf]; omega
            · have hte : nl = t := by omega
              subst hte
              have R : Hid (∃ F1, Fr w2 wI g F n F1 ∧ wI.rowIs g 39 (n * 5) (ccell (stl cs (k + 1)) F1 n) ∧ Riv wI (g + 1) (stl cs (k + 1)) F1 n) := by
                rw [← stlI_all, HLG.out, ← own_all, HNL.out]; exact hF2.out
              go_wp2
              go_roundw
              case rel => exact ⟨k + 1, by omega, by go_num, R⟩
              case measure => simp [intOf]; omega
        · have hke : n = k := by omega
          subst hke
          have R : Hid (∃ F', BK wC (.slice (some ⟨g, 0, none⟩) n n) (stl cs n) F' ∧ Fr w wC g F n F') := by
            obtain ⟨F1, h1, h2, h3⟩ := hF1.out
            have hN : (stl cs n).length = n := by rw [stl_len]; exact hn.out
            exact ⟨F1, ⟨g, by rw [hN], by rw [hN]; exact h2, by rw [hN]; exact h3⟩, HFr2.out.trans h1⟩
          go_wp2
          exact bodyPost_end (results_none rfl _ _ _) rfl ⟨rfl, R⟩
    · intro s v wB cnt' hp hS hen hRgB hlt hgrB hszB
      have HRgB : Hid (Rg wB w.heap.size wH.heap.size m (fun x => S x || decide (x = s)) cnt') := hRgB
      have hszH := hbH.size
      have HGB : Hid (wH.grownBy wB (some g)) := hGr.out.andThen hgrB (fun j e => by cases e; left; exact Nat.le_refl _)
      have HRowB : Hid (wB.rowIs g 39 (n * 5) (ccell (ren cs (T cs S)) F n)) := hRow.out.of_block (hgrB.block g (by have := hGr.out.size; omega) (fun e => by cases e; omega))
      have HS : Hid (S s = false) := hS
      have hO := HG.out.at _ hp
      rw [hi_get] at hO
      have hOB : OwnI wB (w.heap.size + 1) v (top (names cs) (rks cs) s n) := hO.keep (fun x hx => by
        have := World.ownsRow.lt hO x hx
        exact HGB.out.block x this.2 (fun e => by cases e; omega))
      obtain ⟨av, cv, hv, hI, _⟩ := hOB.row
      subst hv
      obtain ⟨l, hll⟩ : ∃ l, top (names cs) (rks cs) s n = l := ⟨_, rfl⟩
      have HLT : Hid (∀ j ∈ l, j < n) := fun j hj => by rw [← hll] at hj; exact top_lt _ _ _ _ _ hj
      have HLL : Hid (top (names cs) (rks cs) s n = l) := hll
      rw [hll] at hI hen
      have HMS : Hid (rleft wA w.heap.size wH.heap.size = cnt ∧ cnt' < cnt) := ⟨hRg.out.left, hlt⟩
      have HI : Hid (IRow wB av l) := hI
      clear hll hI hOB hO hp hS hRgB hlt hgrB hszB hRg hRow hGr
      obtain ⟨nl, hnl0⟩ : ∃ z, l.length = z := ⟨_, rfl⟩
      rw [hnl0] at hen
      have HNL : Hid (l.length = nl) := hnl0
      clear hnl0
      by_cases h2 : nl = 2
      · subst h2
        match l, HNL.out with
        | [x, y], _ =>
          have hx := HLT.out x (by simp)
          have hy := HLT.out y (by simp)
          obtain ⟨b1, o1, ha1, hc0⟩ := HI.out 0 (by simp)
          obtain ⟨b2, o2, ha2, hc1⟩ := HI.out 1 (by simp)
          subst ha1
          cases ha2
          have hc0' : wB.cell? ⟨b1, o1, none⟩ = some (.int .i64 (x : Int)) := hc0
          have hc1' : wB.cell? ⟨b1, o1 + 1, none⟩ = some (.int .i64 (y : Int)) := hc1
          clear hc0 hc1
          obtain ⟨cx, hcx⟩ : ∃ c, (cat cs x).cst = c := ⟨_, rfl⟩
          obtain ⟨cy, hcy⟩ : ∃ c, (cat cs y).cst = c := ⟨_, rfl⟩
          have gx : wB.cell? ⟨g, x * 5 + 2, none⟩ = some (.bool cx) := by
            have := claim_cell HRowB.out hx 2 (by decide) rfl rfl
            rw [this, ← hcx, ← ren_cst cs (T cs S)]; rfl
          have gy : wB.cell? ⟨g, y * 5 + 2, none⟩ = some (.bool cy) := by
            have := claim_cell HRowB.out hy 2 (by decide) rfl rfl
            rw [this, ← hcy, ← ren_cst cs (T cs S)]; rfl
          have ex : (x : Int) < n := by omega
          have ey : (y : Int) < n := by omega
          have HPK : Hid (pick cs (top (names cs) (rks cs) s n) = if cx = cy then none else if cx = true then some x else some y) := by
            show _ = _
            rw [HLL.out, ← hcx, ← hcy]; rfl
          clear hcx hcy
          by_cases hxy : cx = cy
          · have HR : Hid _ := skip_step hn.out HRgB.out HGB.out HRowB.out (by rw [HPK.out, if_pos hxy])
            subst hxy
            have d1 : (cx == cx) = true := by simp
            go_wp2_with fail
            go_quiet (fail)
            go_wp2
            go_roundw
            case rel => exact ⟨_, _, HR.out nq⟩
            case measure => rw [(HR.out nq).1.out.left, HMS.out.1]; exact HMS.out.2
          · cases cx with
            | true =>
              have hcy : cy = false := by cases cy; rfl; exact absurd rfl hxy
              subst hcy
              have hpk : pick cs (top (names cs) (rks cs) s n) = some x := by rw [HPK.out]; rfl
              have HR : Hid _ := pick_step hn.out (show g ≠ w.heap.size by omega) (show g ≠ wH.heap.size by omega) HRgB.out HGB.out HRowB.out hpk HS.out
              obtain ⟨_, t2, _⟩ := T_hit cs S s x (by rw [hn.out]; exact hpk) HS.out
              have k0 : wB.cell? ⟨g, x * 5, none⟩ = some (.string (cat cs x).name) := claim_cell HRowB.out hx 0 (by decide) t2 rfl
              have k1 : wB.frozen? ⟨g, x * 5, none⟩ = false := HRowB.out.frozen _
              have k2 := hz.out x hx
              clear hpk t2 HPK hxy
              obtain ⟨s0, hs0⟩ : ∃ z, (cat cs x).name = z := ⟨_, rfl⟩
              rw [hs0] at k0 k2
              have HS0 : Hid ((cat cs x).name = s0) := hs0
              clear hs0
              go_wp2_with fail
              go_quiet (fail)
              go_wp2
              go_roundw
              case rel =>
                have := HR.out nq
                rw [HS0.out] at this
                exact ⟨_, _, this⟩
              case measure =>
                have := HR.out nq
                rw [HS0.out] at this
                exact (by rw [this.1.out.left, HMS.out.1]; exact HMS.out.2 : rleft ((wB.drewN nq).setCell ⟨g, x * 5, none⟩ (.string (s0 ++ suf))) w.heap.size wH.heap.size < rleft wA w.heap.size wH.heap.size)
            | false =>
              have hcy : cy = true := by cases cy; exact absurd rfl hxy; rfl
              subst hcy
              have hpk : pick cs (top (names cs) (rks cs) s n) = some y := by rw [HPK.out]; rfl
              have HR : Hid _ := pick_step hn.out (show g ≠ w.heap.size by omega) (show g ≠ wH.heap.size by omega) HRgB.out HGB.out HRowB.out hpk HS.out
              obtain ⟨_, t2, _⟩ := T_hit cs S s y (by rw [hn.out]; exact hpk) HS.out
              have k0 : wB.cell? ⟨g, y * 5, none⟩ = some (.string (cat cs y).name) := claim_cell HRowB.out hy 0 (by decide) t2 rfl
              have k1 : wB.frozen? ⟨g, y * 5, none⟩ = false := HRowB.out.frozen _
              have k2 := hz.out y hy
              clear hpk t2 HPK hxy
              obtain ⟨s0, hs0⟩ : ∃ z, (cat cs y).name = z := ⟨_, rfl⟩
              rw [hs0] at k0 k2
              have HS0 : Hid ((cat cs y).name = s0) := hs0
              clear hs0
              go_wp2_with fail
              go_quiet (fail)
              go_wp2
              go_roundw
              case rel =>
                have := HR.out nq
                rw [HS0.out] at this
                exact ⟨_, _, this⟩
              case measure =>
                have := HR.out nq
                rw [HS0.out] at this
                exact (by rw [this.1.out.left, HMS.out.1]; exact HMS.out.2 : rleft ((wB.drewN nq).setCell ⟨g, y * 5, none⟩ (.string (s0 ++ suf))) w.heap.size wH.heap.size < rleft wA w.heap.size wH.heap.size)
      · have d0 : ((nl : Int) == 2) = false := by simp; omega
        have R := skip_step hn.out HRgB.out HGB.out HRowB.out (by rw [HLL.out]; exact pick_len (by rw [HNL.out]; exact h2))
        have HR : Hid _ := R
        clear R
        go_wp2_with fail
        go_quiet (fail)
        go_wp2
        go_roundw
        case rel => exact ⟨_, _, HR.out nq⟩
        case measure => rw [(HR.out nq).1.out.left, HMS.out.1]; exact HMS.out.2
end Go.Proofs.Qxb6617226a
