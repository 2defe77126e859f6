/- THE WALK of 'meets'. -/
import Derived.Test.Qxb6608623aQmN
import Derived.Test.Qxb6608623aQmG
namespace Go.Proofs.Qxb6608623a.qmJ
open Go.RowKit
open Go.Proofs.Qxb6608623a.Qm
open Go.Proofs.Qxb6608623a.qmW
open Go.Proofs.Qxb6608623a.qmS
open Go.Proofs.Qxb6608623a.qmI
open Go.Proofs.Qxb6608623a.qmR
open Go.Proofs.Qxb6608623a.qmL
open Go.Proofs.Qxb6608623a.qmM
open Go.Proofs.Qxb6608623a.qmN
set_option linter.unusedVariables false
set_option linter.unusedSimpArgs false
attribute [local go_sem ↓] Go.wp_at_zero Go.wp_at_succ

/-- the variables that 'meets' has captured -/
structure Mt (w : World) (bs bf bb bt thr bud L1 L2 H2 N1 N2 : Nat) (v1 v2 x1 : Value) : Prop where
  s : w.heap[bs]? = some (.cells #[v2, .slice (some ⟨L2, 0, none⟩) N2 N2, .slice (some ⟨H2, 0, none⟩) N2 N2] 97 (0, 0))
  f : w.heap[bf]? = some (.cells #[v1, .slice (some ⟨L1, 0, none⟩) N1 N1, x1] 97 (0, 0))
  b : w.heap[bb]? = some (.cells #[.int .u64 bud] 23 (0, 0))
  t : w.heap[bt]? = some (.cells #[.int .u64 thr] 23 (0, 0))
theorem Mt.below {w w' : World} {bs bf bb bt thr bud L1 L2 H2 N1 N2 : Nat} {v1 v2 x1 : Value} (h : Mt w bs bf bb bt thr bud L1 L2 H2 N1 N2 v1 v2 x1) (hb : Below w.heap.size w w') : Mt w' bs bf bb bt thr bud L1 L2 H2 N1 N2 v1 v2 x1 :=
  ⟨(hb.block _ (lt_of_some h.s)).trans h.s, (hb.block _ (lt_of_some h.f)).trans h.f, (hb.block _ (lt_of_some h.b)).trans h.b, (hb.block _ (lt_of_some h.t)).trans h.t⟩

set_option maxRecDepth 100000 in
set_option maxHeartbeats 4000000 in
theorem meets51 (j k bs bf bb bt thr bud L1 L2 H2 N1 N2 : Nat) (v1 v2 x1 : Value) (S1 S2 : List (List Sb)) (C1 C2 D2 : List Value) (T1 T2 : List Sb) (w : World)
    (hM : Mt w bs bf bb bt thr bud L1 L2 H2 N1 N2 v1 v2 x1) (h1 : BySz w L1 C1 N1 S1) (h2 : BySz w L2 C2 N2 S2) (hH : HvSz w H2 D2 N2 S2) (e1 : S1[j]? = some T1) (e2 : S2[k]? = some T2)
    (o1 : SortedC T1) (o2 : SortedC T2) (hT1 : T1.length ≤ 131072) (hT2 : T2.length ≤ 131072) (hg : ∀ s ∈ T1, s.w ≤ thr) (hbud : U bud) (hthr : U thr) (hj : j < N1) (hk : k < N2) (hN1 : N1 ≤ 18) (hN2 : N2 ≤ 18) :
    Calls Try.prog 51 #[.int .i64 j, .int .i64 k, .pointer (some ⟨bs, 0, none⟩), .pointer (some ⟨bf, 0, none⟩), .pointer (some ⟨bb, 0, none⟩), .pointer (some ⟨bt, 0, none⟩)] w
      fun e w' => ∃ r : Bool, e = .returned (.bool r) ∧ (r = true → ∃ s ∈ T1, ∃ t ∈ T2, Fits thr bud s t) ∧ (r = false → None thr bud T1 T2) ∧ Below w.heap.size w w' := by
  unfold U at hbud hthr
  obtain ⟨g1, cp1, a1, a2, a3⟩ := h1.at_ j T1 e1
  obtain ⟨g2, cp2, b1, b2, b3⟩ := h2.at_ k T2 e2
  obtain ⟨g3, d1, d3⟩ := hH.at_ k T2 e2
  obtain ⟨cA, _⟩ := h1.cells.cell a1
  obtain ⟨cB, _⟩ := h2.cells.cell b1
  obtain ⟨cD, _⟩ := hH.cells.cell d1
  obtain ⟨_, s1, s2⟩ := at_three hM.s
  obtain ⟨_, f1, _⟩ := at_three hM.f
  obtain ⟨n1, hn1⟩ : ∃ n1, n1 = T1.length := ⟨_, rfl⟩
  obtain ⟨n2, hn2⟩ : ∃ n2, n2 = T2.length := ⟨_, rfl⟩
  rw [← hn1] at cA hT1
  rw [← hn2] at cB cD hT2
  have HN1 : Hid (n1 = T1.length) := hn1
  have HN2 : Hid (n2 = T2.length) := hn2
  have HM : Hid (Mt w bs bf bb bt thr bud L1 L2 H2 N1 N2 v1 v2 x1) := hM
  have HR1 : Hid (RowSb w g1 T1) := a3
  have HR2 : Hid (RowSb w g2 T2) := b3
  have HR3 : Hid (RowIs w g3 (fun j => (hvs 0 T2).getD j 0) n2) := by rw [hn2]; exact d3
  have HO1 : Hid (SortedC T1) := o1
  have HO2 : Hid (SortedC T2) := o2
  have HG : Hid (∀ s ∈ T1, s.w ≤ thr) := hg
  have q0 : (0 : Int) ≤ (j : Int) := Int.natCast_nonneg _
  have q1 : (j : Int) < (N1 : Int) := by omega
  have q2 : (0 : Int) ≤ (k : Int) := Int.natCast_nonneg _
  have q3 : (k : Int) < (N2 : Int) := by omega
  clear a1 a2 a3 b1 b2 b3 d1 d3 hM h1 h2 hH e1 e2 o1 o2 hg hn1 hn2
  go_enter Try.func51, Try.ntmps51
  go_wp2_with fail
  go_quiet (fail)
  go_wp2_with fail
  go_loopw [33, 11] (fun iv lv wq => ∃ i l : Nat, i ≤ n1 ∧ l ≤ n2 ∧ iv = .int .i64 i ∧ lv = .int .i64 ((l : Int) - 1) ∧ NoF thr bud T1 T2 i ∧ Past bud T1 T2 i l ∧ Below w.heap.size w wq) (fun iv _ _ => n1 - (intOf iv).toNat)
  case atStart => exact ⟨0, n2, Nat.zero_le _, Nat.le_refl _, by go_num, by go_num, noF_zero _ _ _ _, by rw [HN2.out]; exact past_all _ _ _, qmS.below_drewN _ _⟩
  case round =>
    clear cA cB cD s1 s2 f1
    obtain ⟨i, l, hi, hl, rfl, rfl, hno, hpast, hbel⟩ := hrel
    have HNO : Hid (NoF thr bud T1 T2 i) := hno
    have HPA : Hid (Past bud T1 T2 i l) := hpast
    clear hno hpast
    by_cases hin : i < n1
    · obtain ⟨s, hs⟩ : ∃ s, T1[i]? = some s := ⟨_, List.getElem?_eq_getElem (by rw [← HN1.out]; exact hin)⟩
      obtain ⟨a0, a1, a2⟩ := (HR1.out.at_ i s hs).below hbel HR1.out.lt
      rw [Nat.zero_add] at a0 a1 a2
      obtain ⟨cb, _⟩ := at_one (HM.out.below hbel).b
      have HS : Hid (T1[i]? = some s) := hs
      have hsw := HG.out s (List.mem_of_getElem? hs)
      have i0 : (0 : Int) ≤ (i : Int) := Int.natCast_nonneg _
      have i1 : (i : Int) < (n1 : Int) := by omega
      clear hs
      go_upto_region 6 with fail
      obtain ⟨W, hW⟩ : ∃ W, W = wr.alloc (.cells #[.int .u64 s.m, .int .u64 s.w, .int .u64 s.c] 101) := ⟨_, rfl⟩
      rw [← hW]
      have HSV : Hid (W.heap[wr.heap.size]? = some (.cells #[.int .u64 s.m, .int .u64 s.w, .int .u64 s.c] 101 (0, 0))) := by rw [hW]; exact heap_alloc_new _ _
      have HBW : Hid (Below w.heap.size w W) := by rw [hW]; exact hbel.alloc hbel.size _
      obtain ⟨vb, hvb⟩ : ∃ vb, vb = wr.heap.size := ⟨_, rfl⟩
      rw [← hvb] at HSV ⊢
      obtain ⟨cbW, _⟩ := at_one (HM.out.below HBW.out).b
      obtain ⟨_, _, sW⟩ := at_three HSV.out
      clear hW a0 a1 a2 hbel hvb cb
      by_cases hc : bud < s.c
      · go_wp2
        go_ret
        exact ⟨false, rfl, fun h => absurd h (by simp), fun _ => none_dear HO1.out HNO.out HS.out hc, HBW.out⟩
      · go_wp2_with fail
        clear cbW sW
        go_loopw [11] (fun lv wq => ∃ l' : Nat, l' ≤ n2 ∧ lv = .int .i64 ((l' : Int) - 1) ∧ (∀ idx t, T2[idx]? = some t → l' ≤ idx → bud - s.c < t.c) ∧ Below W.heap.size W wq) (fun lv _ => (intOf lv + 1).toNat)
        case atStart => exact ⟨l, hl, rfl, past_here HPA.out HS.out, Below.refl _ _⟩
        case round =>
          obtain ⟨l', hl', rfl, hp', hbw⟩ := hrel
          have HPP : Hid (∀ idx t, T2[idx]? = some t → l' ≤ idx → bud - s.c < t.c) := hp'
          have hbel : Below w.heap.size w wr := HBW.out.trans (hbw.mono HBW.out.size)
          obtain ⟨cb, _⟩ := at_one (HM.out.below hbel).b
          obtain ⟨ct, _⟩ := at_one (HM.out.below hbel).t
          obtain ⟨_, x1', x2'⟩ := at_three ((hbw.block _ (lt_of_some HSV.out)).trans HSV.out)
          clear hp'
          rcases l' with _ | l'
          · have dg : decide ((0 : Int) ≤ ((0 : Nat) : Int) - 1) = false := by decide
            go_wp2_with fail
            go_quiet (fail)
            go_wp2
            go_ret
            exact ⟨false, rfl, fun h => absurd h (by simp), fun _ => none_low HO1.out HNO.out HS.out HPP.out, hbel.trans ((qmS.below_drewN _ _).mono hbel.size)⟩
          · obtain ⟨t, ht⟩ : ∃ t, T2[l']? = some t := ⟨_, List.getElem?_eq_getElem (by rw [← HN2.out]; omega)⟩
            obtain ⟨_, _, t2⟩ := (HR2.out.at_ l' t ht).below hbel HR2.out.lt
            rw [Nat.zero_add] at t2
            have HT : Hid (T2[l']? = some t) := ht
            have eA : ((l' + 1 : Nat) : Int) - 1 = (l' : Int) := by omega
            rw [eA]
            have l0 : (0 : Int) ≤ (l' : Int) := Int.natCast_nonneg _
            have l1 : (l' : Int) < (n2 : Int) := by omega
            obtain ⟨h3, _⟩ := (RowIs.congr HR3.out (hbel.block _ (lt_of_some HR3.out))).cell (j := l') (by omega)
            have HH : Hid ((hvs 0 T2)[l']? = some ((hvs 0 T2).getD l' 0)) := hvs_some (by rw [← HN2.out]; omega)
            generalize (hvs 0 T2).getD l' 0 = hv at *
            clear ht
            by_cases hcc : bud - s.c < t.c
            · have hx : (bud : Int) - (s.c : Int) < (t.c : Int) := by omega
              go_wp2_with fail
              go_quiet (fail)
              go_wp2
              go_roundw
              case rel => exact ⟨l', by omega, by go_num, step_past HPP.out HT.out hcc, hbw.trans ((qmS.below_drewN _ _).mono hbw.size)⟩
              case measure => simp [intOf]
            · have hx : decide ((bud : Int) - (s.c : Int) < (t.c : Int)) = false := decide_eq_false (by omega)
              go_wp2_with fail
              go_quiet (fail)
              go_wp2_with fail
              by_cases hh : thr - s.w ≤ hv
              · have hx2 : (thr : Int) - (s.w : Int) ≤ (hv : Int) := by omega
                go_quiet (fail)
                go_wp2
                go_ret
                exact ⟨true, rfl, fun _ => some_fit HO2.out HS.out (by omega) HT.out (by omega) HH.out hh, fun h => absurd h (by simp), (hbel.trans ((qmS.below_drewN wr _).mono hbel.size)).trans ((qmS.below_drewN (wr.drewN _) _).mono (by exact hbel.size))⟩
              · have hx2 : decide ((thr : Int) - (s.w : Int) ≤ (hv : Int)) = false := decide_eq_false (by omega)
                go_quiet (fail)
                go_wp2
                go_roundw
                case rel => exact ⟨i + 1, l' + 1, by omega, hl', by go_num, by go_num, noF_next HNO.out HS.out HPP.out HH.out (by omega), past_next (past_down HO1.out HS.out HPP.out), hbel.trans ((qmS.below_drewN _ _).mono hbel.size)⟩
                case measure => simp [intOf]; omega
    · obtain rfl : i = n1 := by omega
      go_wp2
      go_ret
      exact ⟨false, rfl, fun h => absurd h (by simp), fun _ => none_of (by rw [← HN1.out]; exact HNO.out), hbel⟩
end Go.Proofs.Qxb6608623a.qmJ
