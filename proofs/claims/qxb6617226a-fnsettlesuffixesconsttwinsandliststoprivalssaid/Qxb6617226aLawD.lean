/- FnSettleSuffixesConstTwinsAndListsTopRivals. -/
import Derived.Test.Qxb6617226aAcc
import Derived.Test.Qxb6617226aAfn
namespace Go.Proofs.Qxb6617226a
open Go.RowKit

theorem wpList_append_own_at {P : Program} (w : World) {ops : Array Oper} {rest : List Oper} {o : Oper} {a : Act} {Q : Exit → Act → World → Prop} (hgd : o.guard = none) (s x : Operand) (t : TypeId)
    (ho : o.op = .call { callee := .builtin .append, args := #[s, x], argTypes := #[t, t] })
    (base : Nat) (e : TypeId) (i : TypeInfo) (z : Value) (size bytes : Nat) (ht : P.underlying t = some (.slice e)) (hi : P.info? e = some i) (hz : i.zero = some z)
    (hsize : i.size = size) (hby : i.bytes = bytes) (hzs : z.cells.size = size) (hsz : 0 < size)
    (v : Value) (n : Nat) (xs : List Value) (hs : a.eval s = v) (hown : w.ownsRow base e size v n xs)
    (ad : Addr) (m c : Nat) (news : List Value) (hx : a.eval x = .slice (some ad) m c) (hl : news.length = m * size) (hnews : ∀ j u, news[j]? = some u → w.cell? (ad.add j) = some u) (h1 : ∀ u ∈ news, u.oneCell' = true)
    (h63 : n + m ≤ maxLen) (hbytes : (n + m) * bytes ≤ 140737488355328) (hbase : base ≤ w.heap.size)
    (h : ∀ v' w', w'.ownsRow base e size v' (n + m) (xs ++ news) → w.grownBy w' v.ownBlock → (v'.ownBlock = v.ownBlock ∨ v'.ownBlock = some w.heap.size) → wpList P ops Q rest (a.put o.dst v') w') : wpList P ops Q (o :: rest) a w := by
  refine wpList_plain hgd fun K' hK' => ?_
  obtain ⟨v', w', hr, h2, h3, h4, h5⟩ := run_append_own_at (P := P) w base t o.type e i z size bytes ht hi hz hsize hby hzs hsz v n xs hown ad m c news hl hnews h1 h63 hbytes hbase
  unfold Oper.wp execOp
  simp only [ho, resolve, invoke, builtin, Sem.run_bind, Sem.run_pure, Result.andThen_ok, List.map_toArray, List.map_cons, List.map_nil, hs, hx, hr]
  exact hK' _ _ (h v' w' h2 h3 h5)

set_option maxRecDepth 100000 in
set_option maxHeartbeats 4000000 in
theorem lawD (v : Value) (cs : List Cm) (w : World) (hP : K w v cs) :
    Calls Try.prog 4 #[v] w fun e w' => e = .returned (.bool true) ∧ Below w.heap.size w w' := by
  have HP : Hid (K w v cs) := hP
  clear hP
  obtain ⟨i0, hi0, hz0, hz1, hz2⟩ := info_parts Try.info9
  go_enter Try.func4, Try.ntmps4
  go_wp2_with fail
  refine (bytes16 v cs _ HP.out).mono ?_
  rintro e w0 ⟨he, hw0⟩
  cases hw0
  rcases he with ⟨rfl, hzz⟩ | rfl
  · go_wp2_with fail
    refine (big9 v cs _ HP.out).mono ?_
    rintro e w0 ⟨he, hw0⟩
    cases hw0
    rcases he with rfl | ⟨rfl, hs⟩
    · go_wp2
      go_ret
      exact ⟨rfl, Below.refl _ _⟩
    · obtain ⟨n, hn0⟩ : ∃ n, cs.length = n := ⟨_, rfl⟩
      have HN : Hid (cs.length = n) := hn0
      have hn : n ≤ 4096 := by rw [← hn0]; exact hs.n
      have HZ : Hid (∀ i, i < n → (cat cs i).name.size ≤ 1048576) := by rw [← hn0]; exact hzz.out
      have HRL : Hid (∀ i, i < n → (cat cs i).rivals.length ≤ 1048576) := by rw [← hn0]; exact hs.r
      have HSM : Hid (SmallC cs) := hs
      have HLo : Hid (∀ i, i < n → -9223372036854775808 ≤ (cat cs i).rank ∧ (cat cs i).rank ≤ 9223372036854775807) := by
        intro i hi
        obtain ⟨a, cap, _, _, hk⟩ := HP.out
        obtain ⟨b, off, ra, rc, _, h5⟩ := hk i (by rw [HN.out]; exact hi)
        exact ⟨h5.lo, h5.hi⟩
      clear hn0 hs hzz
      go_wp2_with fail
      refine (build10g v cs _ HP.out HSM.out).mono ?_
      rintro e w1 ⟨F, hew, hbk, hb1⟩
      rw [HN.out] at hew hbk
      subst hew
      have HBK : Hid (BK w1 (.slice (some ⟨w.heap.size, 0, none⟩) n n) cs F) := hbk
      clear hbk
      go_wp2_with fail
      refine (zsettle17 w.heap.size cs F n _ HN hn HBK HLo HZ HRL).mono ?_
      rintro e w2 ⟨rfl, hst⟩
      obtain ⟨F', hbk2, hfr⟩ := hst.out
      have HBK2 : Hid (BK w2 (.slice (some ⟨w.heap.size, 0, none⟩) n n) (stl cs n) F') := hbk2
      have hb2 : Below w.heap.size w w2 := hb1.trans (hfr.belowB (Nat.le_refl _) hb1.size (fun i hi b hb => by have := (HBK.out.parts HN.out).2.low i hi b hb; omega))
      clear hst hfr hbk2 hb1
      go_wp2_with fail
      refine (aft18 v cs n _ HN (HP.out.below hb2) hn HZ).mono ?_
      rintro e w3 ⟨ga, rfl, hra, hb3⟩
      have hb3' : Below w.heap.size w w3 := hb2.trans (hb3.mono hb2.size)
      have HK3 : Hid (K w3 v cs) := HP.out.below hb3'
      have HBP : Hid (w3.rowIs w.heap.size 39 (n * 5) (ccell (stl cs n) F' n) ∧ Riv w3 (w.heap.size + 1) (stl cs n) F' n) := (HBK2.out.below hb3).parts (by rw [stl_len]; exact HN.out)
      obtain ⟨a0, cap0, hv, hln, hk⟩ := HK3.out
      rw [HN.out] at hv hk
      subst hv
      have HK : Hid (∀ i, i < n → ∃ b off ra rc, a0 = some ⟨b, off, none⟩ ∧ Five w3 b (off + i * 5) (cat cs i) ra rc) := hk
      clear hk hln HBK HBK2 hb2 hb3
      go_wp2
      go_loopw [5] (fun i wr => ∃ k : Nat, k ≤ n ∧ i = .int .i64 k ∧ Below w3.heap.size w3 wr) (fun i _ => n - (intOf i).toNat)
      case atStart => exact ⟨0, Nat.zero_le _, rfl, Below.refl _ _⟩
      case round =>
        obtain ⟨i, hin, rfl, hbA⟩ := hrel
        rename World => wA
        by_cases hlt : i < n
        · obtain ⟨b, off, ra, rc, rfl, h5⟩ := HK.out i hlt
          have hfull := stl_full HN.out hlt
          obtain ⟨fa, fc, hFv⟩ := (HBP.out.2.1 i hlt).slice
          have hOF := HBP.out.2.1 i hlt
          obtain ⟨bA, oA, haA, hcA⟩ := hra.out i (by rw [aft_len, HN.out]; exact hlt)
          cases haA
          rw [Nat.zero_add] at hcA
          have hrl := HRL.out i hlt
          obtain ⟨s0, hs0⟩ : ∃ z, sat (aft cs) i = z := ⟨_, rfl⟩
          obtain ⟨o0, ho0⟩ : ∃ z, (cat cs i).owner = z := ⟨_, rfl⟩
          obtain ⟨b0, hb0⟩ : ∃ z, (cat cs i).cst = z := ⟨_, rfl⟩
          obtain ⟨r0, hr0⟩ : ∃ z, (cat cs i).rank = z := ⟨_, rfl⟩
          obtain ⟨rv, hrv⟩ : ∃ z, (cat cs i).rivals = z := ⟨_, rfl⟩
          obtain ⟨xs, hxs⟩ : ∃ z, rv ++ own cs i (grp cs i) = z := ⟨_, rfl⟩
          rw [hs0, ho0, hb0, hr0, hrv, hxs] at hfull
          have f1 := h5.c1
          have f2 := h5.c2
          have f3 := h5.c3
          have f4 := h5.c4
          have f5 := h5.row
          rw [ho0] at f1
          rw [hb0] at f2
          rw [hr0] at f3
          rw [hrv] at f4 f5 hrl
          rw [hs0] at hcA
          rw [hfull] at hFv hOF
          simp only at hFv hOF
          have hgl : (grp cs i).length ≤ n := by unfold grp; rw [HN.out]; exact tops_len _ _ _ _ _
          have hol := own_len cs i (grp cs i)
          obtain ⟨n1, hn1⟩ : ∃ z, rv.length = z := ⟨_, rfl⟩
          obtain ⟨fl, hfl⟩ : ∃ z, xs.length = z := ⟨_, rfl⟩
          have hflb : fl ≤ 1052672 := by rw [← hfl, ← hxs, List.length_append]; omega
          rw [hfl] at hFv
          rw [hn1] at f4 hrl
          have HXS : Hid (rv ++ own cs i (grp cs i) = xs) := hxs
          have HSI : Hid (sat (aft cs) i = s0) := hs0
          have HN1 : Hid (rv.length = n1) := hn1
          have HFL : Hid (xs.length = fl) := hfl
          have HZR : Hid (ra = none → rc = 0) := h5.nil
          have HRR : Hid (SRow w3 ra rv) := f5
          have HOF : Hid (OwnS w3 (w.heap.size + 1) (.slice fa fl fc) xs) := by rw [hFv] at hOF; exact hOF
          have g0 : w3.cell? ⟨w.heap.size, i * 5, none⟩ = some (.string s0) := claim_cell HBP.out.1 hlt 0 (by decide) hfull hFv
          have g1 : w3.cell? ⟨w.heap.size, i * 5 + 1, none⟩ = some (.string o0) := claim_cell HBP.out.1 hlt 1 (by decide) hfull hFv
          have g2 : w3.cell? ⟨w.heap.size, i * 5 + 2, none⟩ = some (.bool b0) := claim_cell HBP.out.1 hlt 2 (by decide) hfull hFv
          have g3 : w3.cell? ⟨w.heap.size, i * 5 + 3, none⟩ = some (.int .i64 r0) := claim_cell HBP.out.1 hlt 3 (by decide) hfull hFv
          have g4 : w3.cell? ⟨w.heap.size, i * 5 + 4, none⟩ = some (.slice fa fl fc) := claim_cell HBP.out.1 hlt 4 (by decide) hfull hFv
          have k0 := cell_later hbA g0
          have k1 := cell_later hbA g1
          have k2 := cell_later hbA g2
          have k3 := cell_later hbA g3
          have k4 := cell_later hbA g4
          have hbD : Below w3.heap.size w3 (wA.alloc (.cells #[.string s0, .string o0, .bool b0, .int .i64 r0, .slice fa fl fc] 39)) := hbA.trans (((Below.refl _ _).alloc (Nat.le_refl _) _).mono hbA.size)
          have HS : Hid (∀ w', Below (wA.alloc (.cells #[.string s0, .string o0, .bool b0, .int .i64 r0, .slice fa fl fc] 39)).heap.size (wA.alloc (.cells #[.string s0, .string o0, .bool b0, .int .i64 r0, .slice fa fl fc] 39)) w' →
              w'.cell? ⟨wA.heap.size, 0, none⟩ = some (.string s0) ∧ w'.cell? ⟨wA.heap.size, 1, none⟩ = some (.string o0) ∧ w'.cell? ⟨wA.heap.size, 2, none⟩ = some (.bool b0) ∧ w'.cell? ⟨wA.heap.size, 3, none⟩ = some (.int .i64 r0) ∧ w'.cell? ⟨wA.heap.size, 4, none⟩ = some (.slice fa fl fc) ∧
              w'.cell? ⟨ga, i, none⟩ = some (.string s0) ∧ w'.cell? ⟨b, off + i * 5 + 1, none⟩ = some (.string o0) ∧ w'.cell? ⟨b, off + i * 5 + 2, none⟩ = some (.bool b0) ∧ w'.cell? ⟨b, off + i * 5 + 3, none⟩ = some (.int .i64 r0)) := fun w' hb =>
            ⟨cell_later hb (World.cell?_alloc_new _ _ _ _), cell_later hb (World.cell?_alloc_new _ _ _ _), cell_later hb (World.cell?_alloc_new _ _ _ _), cell_later hb (World.cell?_alloc_new _ _ _ _), cell_later hb (World.cell?_alloc_new _ _ _ _),
              cell_later hb (cell_later hbD hcA), cell_later hb (cell_later hbD f1), cell_later hb (cell_later hbD f2), cell_later hb (cell_later hbD f3)⟩
          clear h5 hfull hFv hOF hs0 ho0 hb0 hr0 hrv hxs hn1 hfl hol f5 g0 g1 g2 g3 g4 hcA f1 f2 f3
          have e1 : (i : Int) < n := by omega
          have d1 : (s0.toList == s0.toList) = true := by simp
          have d2 : (o0.toList == o0.toList) = true := by simp
          have d3 : (b0 != b0) = false := by simp
          have d4 : (r0 != r0) = false := by simp
          have S0 := HS.out (wA.alloc (.cells #[.string s0, .string o0, .bool b0, .int .i64 r0, .slice fa fl fc] 39)).drew ⟨rfl, rfl, rfl, Nat.le_refl _, fun _ _ => rfl⟩
          go_wp2_with fail
          go_region_held3 (fun w' => w'.cell? ⟨wA.heap.size, 0, none⟩ = some (.string s0) ∧ w'.cell? ⟨wA.heap.size, 1, none⟩ = some (.string o0) ∧ w'.cell? ⟨wA.heap.size, 2, none⟩ = some (.bool b0) ∧ w'.cell? ⟨wA.heap.size, 3, none⟩ = some (.int .i64 r0) ∧ w'.cell? ⟨wA.heap.size, 4, none⟩ = some (.slice fa fl fc) ∧
              w'.cell? ⟨ga, i, none⟩ = some (.string s0) ∧ w'.cell? ⟨b, off + i * 5 + 1, none⟩ = some (.string o0) ∧ w'.cell? ⟨b, off + i * 5 + 2, none⟩ = some (.bool b0) ∧ w'.cell? ⟨b, off + i * 5 + 3, none⟩ = some (.int .i64 r0)) (first | assumption | go_keep)
            (first | (go_at_call 19; refine (acc19 s0 o0 b0 r0 fa fl fc _).mono ?_; rintro e w19 ⟨rfl, hb19⟩; have hc19 : Below (wA.alloc (.cells #[.string s0, .string o0, .bool b0, .int .i64 r0, .slice fa fl fc] 39)).heap.size (wA.alloc (.cells #[.string s0, .string o0, .bool b0, .int .i64 r0, .slice fa fl fc] 39)) w19 := ⟨hb19.os, hb19.tape, hb19.output, hb19.size, hb19.block⟩; have S19 := HS.out w19 hc19) | (go_at_call 20; refine (acc20 s0 o0 b0 r0 fa fl fc _).mono ?_; rintro e w20 ⟨rfl, hb20⟩; have hc20 := hc19.trans (hb20.mono hc19.size); have S20 := HS.out w20 hc20) | (go_at_call 21; refine (acc21 s0 o0 b0 r0 fa fl fc _).mono ?_; rintro e w21 ⟨rfl, hb21⟩; have hc21 := hc20.trans (hb21.mono hc20.size); have S21 := HS.out w21 hc21) | (go_at_call 22; refine (acc22 s0 o0 b0 r0 fa fl fc _).mono ?_; rintro e w22 ⟨rfl, hb22⟩; have hc22 := hc21.trans (hb22.mono hc21.size); have S22 := HS.out w22 hc22))
          have hbW : Below w3.heap.size w3 w22 := hbD.trans (hc22.mono hbD.size)
          have HR22 : Hid (SRow w22 ra rv) := HRR.out.below hbW
          have k5 : w22.cell? ⟨b, off + i * 5 + 4, none⟩ = some (.slice ra n1 rc) := cell_later hbW f4
          have HC22 : Hid _ := hc22
          clear hc22 hc21 hc20 hc19 hb19 hb20 hb21 hb22 S0 S19 S20 S21 k0 k1 k2 k3 k4 f4
          go_wp2_with fail
          refine (clone_any ra n1 rc rv _ HN1 hrl HZR.out (by exact HR22)).mono ?_
          rintro e w23 ⟨a', c', rfl, hown, hb23⟩
          have hbX : Below w3.heap.size w3 w23 := hbW.trans (hb23.mono hbW.size)
          have HS23 : Hid (SRow w23 (some ⟨ga, 0, none⟩) (aft cs)) := hra.out.below hbX
          have HK23 : Hid (K w23 (.slice (some ⟨b, off, none⟩) n cap0) cs) := HK3.out.below hbX
          have HAL : Hid ((aft cs).length = n) := by show _ = _; rw [aft_len]; exact HN.out
          have c0 : w23.cell? ⟨ga, i, none⟩ = some (.string s0) := cell_later hb23 S22.2.2.2.2.2.1
          clear S22 k5
          go_wp2_with fail
          refine (top15 (some ⟨ga, 0, none⟩) n (aft cs) (.slice (some ⟨b, off, none⟩) n cap0) cs s0 n _ HN HAL HS23 HK23.out hn).mono ?_
          rintro e w24 ⟨u, rfl, hou, hb24⟩
          obtain ⟨l, hll⟩ : ∃ l, top (aft cs) (rks cs) s0 n = l := ⟨_, rfl⟩
          rw [hll] at hou
          have HLG : Hid (grp cs i = l) := by show _ = _; rw [← hll]; unfold grp; rw [HN.out, HSI.out]
          have HLT : Hid (∀ j ∈ l, j < n) := fun j hj => by rw [← hll] at hj; exact top_lt _ _ _ _ _ hj
          have hnlb : l.length ≤ n := by rw [← hll]; exact tops_len _ _ _ _ _
          clear hll
          obtain ⟨al, cl, hu, _, _⟩ := hou.row
          subst hu
          obtain ⟨nl, hnl0⟩ : ∃ z, l.length = z := ⟨_, rfl⟩
          have HOU : Hid (OwnI w24 w23.heap.size (.slice al nl cl) l) := by rw [← hnl0]; exact hou
          rw [hnl0] at hnlb ⊢
          have HNL : Hid (l.length = nl) := hnl0
          have hs23 := hb23.size
          have hs24 := hb24.size
          have HO24 : Hid (OwnS w24 w22.heap.size (.slice a' n1 c') rv) := hown.out.move (Nat.le_refl _) (fun x _ hlt => hb24.block x hlt)
          have HOB : Hid (∀ x, (Value.slice a' n1 c').ownBlock = some x → x < w23.heap.size ∨ w24.heap.size ≤ x) := fun x hx => Or.inl (World.ownsRow.lt hown.out x hx).2
          have hbY : Below w3.heap.size w3 w24 := hbX.trans (hb24.mono hbX.size)
          clear hnl0 hou hown c0
          go_wp2
          go_loopw [7, 9] (fun o t wr => ∃ k : Nat, k ≤ nl ∧ t = .int .i64 k ∧ Hid (OwnS wr w22.heap.size o (rv ++ own cs i (l.take k))) ∧ Hid (Below w22.heap.size w24 wr) ∧ Hid ((∀ x, o.ownBlock = some x → x < w23.heap.size ∨ w24.heap.size ≤ x) ∧ ∀ y, w23.heap.size ≤ y → y < w24.heap.size → wr.heap[y]? = w24.heap[y]?)) (fun _ t _ => nl - (intOf t).toNat)
          case atStart => exact ⟨0, Nat.zero_le _, rfl, by show OwnS _ _ _ (rv ++ []); rw [List.append_nil]; exact HO24.out, Below.refl _ _, HOB.out, fun _ _ _ => rfl⟩
          case round =>
            obtain ⟨t, htn, rfl, hO, hBt, hKp⟩ := hrel
            rename World => wI
            have hbZ : Below w3.heap.size w3 wI := hbY.trans (hBt.out.mono hbW.size)
            obtain ⟨ao, co, ho⟩ := hO.out.slice
            subst ho
            by_cases hltt : t < nl
            · have hIR : IRow wI al l := by
                have h1 : OwnI wI w23.heap.size (.slice al nl cl) l := HOU.out.keep (fun x hx => by
                  have := World.ownsRow.lt HOU.out x hx
                  exact hKp.out.2 x this.1 this.2)
                obtain ⟨a2, c2, hv2, h2, _⟩ := h1.row
                cases hv2
                exact h2
              obtain ⟨bl, ol, hal, hcl⟩ := hIR t (by rw [HNL.out]; exact hltt)
              subst hal
              have hjn := HLT.out _ (nat_mem (by rw [HNL.out]; exact hltt))
              have HOT : Hid (own cs i (l.take (t + 1)) = if nat l t = i then own cs i (l.take t) else own cs i (l.take t) ++ [(cat cs (nat l t)).owner]) := own_take (by rw [HNL.out]; exact hltt)
              obtain ⟨j, hj0⟩ : ∃ j, nat l t = j := ⟨_, rfl⟩
              rw [hj0] at hcl hjn HOT
              clear hj0 hIR
              have e4 : (t : Int) < nl := by omega
              have e5 : (j : Int) < n := by omega
              have hol := own_len cs i (l.take t)
              rw [List.length_take] at hol
              obtain ⟨x, hx0⟩ : ∃ x, own cs i (l.take t) = x := ⟨_, rfl⟩
              rw [hx0] at HOT hO hol hKp
              rw [hx0]
              have hyl : (rv ++ x).length ≤ 1052672 := by rw [List.length_append, HN1.out]; omega
              obtain ⟨y, hy0⟩ : ∃ y, rv ++ x = y := ⟨_, rfl⟩
              have HY : Hid (rv ++ x = y) := hy0
              rw [hy0] at hO hyl hKp
              rw [hy0]
              obtain ⟨ny, hny⟩ : ∃ z, y.length = z := ⟨_, rfl⟩
              have HNY : Hid (y.length = ny) := hny
              rw [hny] at hO hyl hKp
              rw [hny]
              clear hx0 hy0 hny hol
              by_cases hji : j = i
              · have HT : Hid (rv ++ own cs i (l.take (t + 1)) = y) := by show _ = _; rw [HOT.out, if_pos hji]; exact HY.out
                subst hji
                have d5 : ((j : Int) != (j : Int)) = false := by simp
                go_wp2
                go_roundw
                case rel => exact ⟨t + 1, by omega, by go_num, by rw [HT.out]; exact hO, hBt, hKp⟩
                case measure => simp [intOf]; omega
              · have d5 : ((j : Int) != (i : Int)) = true := by simp; omega
                obtain ⟨b', off', ra', rc', hbb, h5j⟩ := HK.out j hjn
                cases hbb
                have hcj := cell_later hbZ h5j.c1
                have HT : Hid (rv ++ own cs i (l.take (t + 1)) = y ++ [(cat cs j).owner]) := by show _ = _; rw [HOT.out, if_neg hji, ← List.append_assoc, HY.out]
                obtain ⟨oj, hoj⟩ : ∃ z, (cat cs j).owner = z := ⟨_, rfl⟩
                rw [hoj] at hcj HT
                clear h5j hoj HOT HY
                have hszI : w24.heap.size ≤ wI.heap.size := hBt.out.size
                go_wp2_with (at_builtin; refine wpList_append_own_at _ rfl _ _ 28 rfl w22.heap.size 9 i0 (.string ByteArray.empty) 1 16 Try.underlying28 hi0 hz0 hz1 hz2 rfl (by decide) _ ny _ rfl (by have := World.ownsRow.alloc hO.out (.cells #[.string oj] 9); rw [HNY.out] at this; exact this) ⟨wI.heap.size, 0, none⟩ 1 1 [.string oj] rfl rfl ?c1 ?c2 ?c3 ?c4 ?c5 ?_)
                case c1 => exact cell_one_new _ _ _
                case c2 => intro u hu; simp at hu; subst hu; rfl
                case c3 => unfold maxLen; omega
                case c4 => omega
                case c5 => simp; omega
                intro v' wJ hown' hgrow hat
                have R : Hid (OwnS wJ w22.heap.size v' (y ++ [oj])) := by rw [← HNY.out] at hown'; exact OwnS.snoc hown'
                have hB2 : Hid (Below w22.heap.size w24 wJ) := own_step hBt.out (by omega) hO.out hgrow
                have hK2 : Hid ((∀ x, v'.ownBlock = some x → x < w23.heap.size ∨ w24.heap.size ≤ x) ∧ ∀ y, w23.heap.size ≤ y → y < w24.heap.size → wJ.heap[y]? = w24.heap[y]?) := by
                  refine ⟨fun x hx => ?_, fun y h1 h2 => ?_⟩
                  · rcases hat with h | h
                    · rw [h] at hx; exact hKp.out.1 x hx
                    · rw [h] at hx
                      have := Option.some.inj hx
                      right; omega
                  · rw [hgrow.block y (by rw [World.size_alloc]; omega) (fun e => by have := hKp.out.1 y e.symm; omega), Below.heap_alloc _ _ _ (by omega)]
                    exact hKp.out.2 y h1 h2
                clear hown' hgrow hat hcj
                go_wp2
                go_roundw
                case rel => exact ⟨t + 1, by omega, by go_num, by rw [HT.out]; exact R, hB2, hK2⟩
                case measure => simp [intOf]; omega
            · have hte : nl = t := by omega
              subst hte
              have HX2 : Hid (rv ++ own cs i (l.take nl) = xs) := by show _ = _; rw [← HNL.out, own_all, ← HLG.out]; exact HXS.out
              rw [HX2.out] at hO
              rw [HFL.out] at hO
              rw [HX2.out, HFL.out]
              have hcF := (HC22.out.trans (hb23.mono HC22.out.size)).trans ((hb24.mono (Nat.le_trans HC22.out.size hs23)).trans (hBt.out.mono HC22.out.size))
              obtain ⟨q0, q1, q2, q3, q4, _⟩ := HS.out wI hcF
              have HSF : Hid (SRow wI fa xs) := by
                obtain ⟨a2, c2, hv2, _, hr2⟩ := HOF.out.row (by rw [HFL.out]; omega)
                simp only [Value.slice.injEq] at hv2
                rw [hv2.1]; exact hr2.below hbZ
              have HSO : Hid (SRow wI ao xs) := by
                obtain ⟨a2, c2, hv2, _, hr2⟩ := hO.out.row (by rw [HFL.out]; omega)
                simp only [Value.slice.injEq] at hv2
                rw [hv2.1]; exact hr2
              clear hcF hO hKp hBt hbY hbX hb23 hb24 HO24 HOB HOU
              go_wp2_with fail
              refine (acc25 s0 o0 b0 r0 fa fl fc _).mono ?_
              rintro e w25 ⟨rfl, hb25⟩
              have HSF' : Hid (SRow w25 fa xs) := HSF.out.below hb25
              have HSO' : Hid (SRow w25 ao xs) := HSO.out.below hb25
              go_wp2_with fail
              refine (eqStrings_long fa ao fl fc co xs _ HFL (by omega) HSF' HSO').mono ?_
              rintro e w26 ⟨rfl, hb26⟩
              have hbE : Below w3.heap.size w3 w26 := (hbZ.trans (hb25.mono hbZ.size)).trans (hb26.mono (Nat.le_trans hbZ.size hb25.size))
              go_wp2
              go_roundw
              case rel => exact ⟨i + 1, by omega, by go_num, hbE⟩
              case measure => simp [intOf]; omega
        · go_wp2
          go_ret
          exact ⟨rfl, hb3'.trans (hbA.mono hb3'.size)⟩
  · go_wp2
    go_ret
    exact ⟨rfl, Below.refl _ _⟩
end Go.Proofs.Qxb6617226a
