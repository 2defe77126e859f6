/- THE WALK of the law itself. -/
import Derived.Test.Qxb6608623aQm2
namespace Go.Proofs.Qxb6608623a.qmZ
open Go.RowKit
open Go.Proofs.Qxb6608623a.Qm
open Go.Proofs.Qxb6608623a.qmW
open Go.Proofs.Qxb6608623a.qmS
open Go.Proofs.Qxb6608623a.qmI
open Go.Proofs.Qxb6608623a.qmR
open Go.Proofs.Qxb6608623a.qmL
open Go.Proofs.Qxb6608623a.qmV
open Go.Proofs.Qxb6608623a.qmX
open Go.Proofs.Qxb6608623a.qmQ
open Go.Proofs.Qxb6608623a.qmY
open Go.Proofs.Qxb6608623a.qm2
set_option linter.unusedVariables false
set_option linter.unusedSimpArgs false

set_option maxRecDepth 100000 in
set_option maxHeartbeats 8000000 in
theorem law3 (a : Option Addr) (n cap thr bud : Nat) (drop : Int) (vs : List Vt) (hvs : vs.length = n) (hnm : n ≤ maxLen) (hU : ∀ v ∈ vs, U v.w ∧ U v.c) (hthr : U thr) (hbud : U bud) (hd0 : -9223372036854775808 ≤ drop) (hd1 : drop ≤ 9223372036854775807) (w : World) (hV : Vs w a vs) :
    Calls Try.prog 3 #[.slice a n cap, .int .u64 thr, .int .u64 bud, .int .i64 drop] w fun e w' => e = .returned (.bool true) ∧ Below w.heap.size w w' := by
  have HV : Hid (Vs w a vs) := hV
  have HL : Hid (vs.length = n) := hvs
  have HU : Hid (∀ v ∈ vs, U v.w ∧ U v.c) := hU
  have H7 := bytes7 a n cap (.int .u64 thr) (.int .u64 bud) (.int .i64 drop) vs hvs hnm w hV
  have HM : Hid (n ≤ maxLen) := hnm
  obtain ⟨i3, hi3, hz30, hz31, hz32⟩ := info_parts info3
  obtain ⟨i29, hi29, hz290, hz291, hz292⟩ := info_parts info29
  unfold maxLen at hnm
  unfold U at hthr hbud
  clear hV hvs hU
  go_enter Try.func3, Try.ntmps3
  go_upto_if 33 with (first | (go_at_call 7; refine H7.mono ?_; rintro e w' ⟨r7, rfl, hids, rfl⟩) | fail)
  clear H7
  cases r7 with
  | false =>
    go_wp2
    go_ret
    exact ⟨rfl, Below.refl _ _⟩
  | true =>
    have HID : Hid (∀ v ∈ vs, v.id.size ≤ 1048576) := hids rfl
    clear hids
    by_cases hn : 256 < n
    · go_wp2
      go_ret
      exact ⟨rfl, Below.refl _ _⟩
    · as_aux_lemma =>
        go_upto_if 39 with (first | (go_at_call 8; refine (bytes8 a n cap vs HL.out (by omega) HID.out w HV.out).mono ?_; rintro e w' ⟨r8, rfl, hr8, rfl⟩) | fail)
        by_cases h8 : 1048576 < r8
        · go_wp2
          go_ret
          exact ⟨rfl, Below.refl _ _⟩
        · as_aux_lemma =>
            by_cases ht0 : thr = 0
            · as_aux_lemma =>
                subst ht0
                go_wp2
                go_ret
                exact ⟨rfl, Below.refl _ _⟩
            · as_aux_lemma =>
                have hz : ((thr : Int) == 0) = false := by simp; omega
                by_cases ht2 : 4194304 < thr
                · go_wp2
                  go_ret
                  exact ⟨rfl, Below.refl _ _⟩
                · as_aux_lemma =>
                    by_cases hbm : bud = 18446744073709551615
                    · as_aux_lemma =>
                        subst hbm
                        go_wp2
                        go_ret
                        exact ⟨rfl, Below.refl _ _⟩
                    · as_aux_lemma =>
                        have hbz : ((bud : Int) == 18446744073709551615) = false := by simp; omega
                        obtain ⟨N1, hN1⟩ : ∃ N1, N1 = n + 1 := ⟨_, rfl⟩
                        obtain ⟨Q, hQ⟩ : ∃ Q, Q = N1 * N1 := ⟨_, rfl⟩
                        obtain ⟨T1, hT1⟩ : ∃ T1, T1 = thr + 1 := ⟨_, rfl⟩
                        obtain ⟨X, hX⟩ : ∃ X, X = Q * T1 := ⟨_, rfl⟩
                        have eN1 : (n : Int) + 1 = (N1 : Int) := by omega
                        have eQ : (N1 : Int) * (N1 : Int) = (Q : Int) := by rw [hQ]; push_cast; rfl
                        have eT1 : (thr : Int) + 1 = (T1 : Int) := by omega
                        have eX : (Q : Int) * (T1 : Int) = (X : Int) := by rw [hX]; push_cast; rfl
                        have hNm : N1 ≤ 257 := by omega
                        have hQm : Q ≤ 66049 := by rw [hQ]; exact Nat.mul_le_mul hNm hNm
                        have hTm : T1 ≤ 4194305 := by omega
                        have hXm : X ≤ 277029650945 := by rw [hX]; exact Nat.mul_le_mul hQm hTm
                        have HXX : Hid (X = (n + 1) * (n + 1) * (thr + 1)) := by show _ = _; rw [hX, hQ, hN1, hT1]
                        clear hN1 hQ hT1 hX
                        by_cases hXb : 4194304 < X
                        · go_wp2
                          go_ret
                          exact ⟨rfl, Below.refl _ _⟩
                        · as_aux_lemma =>
                            by_cases hdn : drop < 0
                            · go_wp2
                              go_ret
                              exact ⟨rfl, Below.refl _ _⟩
                            · as_aux_lemma =>
                                obtain ⟨d, hd⟩ : ∃ d : Nat, drop = (d : Int) := ⟨drop.toNat, by omega⟩
                                subst hd
                                by_cases hdg : n ≤ d
                                · go_wp2
                                  go_ret
                                  exact ⟨rfl, Below.refl _ _⟩
                                · as_aux_lemma =>
                                    go_upto_if 72 with (first | (go_at_call 9; refine (distinct9 a n cap vs HL.out (by omega) w HV.out).mono ?_; rintro e w1 ⟨r9, rfl, hdst, hb1⟩) | fail)
                                    cases r9 with
                                    | false =>
                                      go_wp2
                                      go_ret
                                      exact ⟨rfl, hb1⟩
                                    | true =>
                                      have HDS : Hid (Dst vs n) := hdst rfl
                                      have HV1 : Hid (Vs w1 a vs) := HV.out.below hb1
                                      have HB1 : Hid (Below w.heap.size w w1) := hb1
                                      have HWK : Hid ((n + 1) * (n + 1) * (thr + 1) ≤ 4194304) := by show _ ≤ _; rw [← HXX.out]; omega
                                      obtain ⟨over, hov⟩ : ∃ over, over = bud + 1 := ⟨_, rfl⟩
                                      have eo : (bud : Int) + 1 = (over : Int) := by omega
                                      have hou : over ≤ 18446744073709551615 := by omega
                                      have hbo : bud < over := by omega
                                      have HOV : Hid (over = bud + 1) := hov
                                      clear hdst hb1 hov HXX eX eQ eT1 eN1 hNm hQm hTm hXm hXb HID HM
                                      have ht1 : 1 ≤ thr := by omega
                                      have hn6 : n ≤ 256 := by omega
                                      have hbu : bud < 18446744073709551615 := by omega
                                      have hdl : d < n := by omega
                                      clear hn hbm ht0 hdg hdn
                                      go_upto_region 16 with fail
                                      go_cut [10] (fun ov wx => ov = .int .u64 over ∧ w1 = wx)
                                      case first => as_aux_lemma =>
                                        go_wp2_with fail
                                        go_meet
                                        case rel => exact ⟨by go_num, rfl⟩
                                      case rest => as_aux_lemma =>
                                        obtain ⟨rfl, rfl⟩ := hcut
                                        go_wp2_with fail
                                        go_loopw [11, 12, 13] (fun wv cv iv wq => SumR vs n thr over w1 wv cv iv wq) (fun _ _ iv _ => n - (intOf iv).toNat)
                                        case atStart => exact SumR.start vs n thr over w1
                                        case round => as_aux_lemma =>
                                          obtain ⟨i, hi, rfl, rfl, rfl, rfl⟩ := hrel.opened
                                          by_cases hlt : i < n
                                          · as_aux_lemma =>
                                              obtain ⟨v, hv⟩ : ∃ v, vs[i]? = some v := ⟨_, List.getElem?_eq_getElem (by rw [HL.out]; exact hlt)⟩
                                              obtain ⟨b, o, rfl, hbl, d0, d1, d2⟩ := HV1.out i v hv
                                              obtain ⟨p1, p2⟩ := HU.out v (List.mem_of_getElem? hv)
                                              have HT : Hid (vs.take (i + 1) = vs.take i ++ [v]) := take_one hv
                                              obtain ⟨x, hx⟩ : ∃ x, x = min (sw (vs.take i)) thr := ⟨_, rfl⟩
                                              obtain ⟨y, hy⟩ : ∃ y, y = min (sc (vs.take i)) over := ⟨_, rfl⟩
                                              rw [← hx, ← hy]
                                              have HX : Hid (x = min (sw (vs.take i)) thr ∧ y = min (sc (vs.take i)) over) := ⟨hx, hy⟩
                                              have hxl : x ≤ thr := by omega
                                              have hyl : y ≤ over := by omega
                                              have i0 : (0 : Int) ≤ (i : Int) := Int.natCast_nonneg _
                                              have i1 : (i : Int) < (n : Int) := by omega
                                              clear hv hx hy
                                              go_upto_region 22 with (first | (go_at_call 10; refine (add10 _ _ _ hxl p1 hthr _).mono ?_; rintro e w' ⟨rfl, rfl⟩) | fail)
                                              go_wp2_with (first | (go_at_call 10; refine (add10 _ _ _ hyl p2 hou _).mono ?_; rintro e w' ⟨rfl, rfl⟩) | fail)
                                              go_roundw
                                              case rel => exact SumR.step w1 hlt HT.out HX.out.1 HX.out.2
                                              case measure => simp [intOf]; omega
                                          · as_aux_lemma =>
                                              obtain rfl : i = n := by omega
                                              rw [List.take_of_length_le (Nat.le_of_eq HL.out)]
                                              clear hrel hlt hi
                                              by_cases hA : sw vs < thr
                                              · as_aux_lemma =>
                                                  obtain ⟨x, hx⟩ : ∃ x, x = min (sw vs) thr := ⟨_, rfl⟩
                                                  rw [← hx]
                                                  have hxl : x < thr := by omega
                                                  clear hx hA
                                                  go_wp2
                                                  go_ret
                                                  exact ⟨rfl, HB1.out⟩
                                              · as_aux_lemma =>
                                                  by_cases hC : bud < sc vs
                                                  · rw [show min (sw vs) thr = thr by omega, show min (sc vs) over = over by omega]
                                                    clear hA hC
                                                    go_wp2
                                                    go_ret
                                                    exact ⟨rfl, HB1.out⟩
                                                  · as_aux_lemma =>
                                                      have HF : Hid (Feas vs thr bud (List.replicate vs.length true)) := all_fit (by omega) (by omega)
                                                      have hsl : sc vs ≤ bud := by omega
                                                      rw [show min (sw vs) thr = thr by omega, show min (sc vs) over = sc vs by omega]
                                                      obtain ⟨y, hy⟩ : ∃ y, y = sc vs := ⟨_, rfl⟩
                                                      rw [← hy] at hsl ⊢
                                                      clear hA hC hy
                                                      go_upto_region 25 with fail
                                                      go_cut [14] (fun gv wx => ∃ (g k c : Nat) (m : List Bool), gv = .slice (some ⟨g, 0, none⟩) k c ∧ (sel vs m).length = k ∧ 0 < k ∧ IsFirst vs thr bud m ∧ g < wx.heap.size ∧ (∀ i v, (sel vs m)[i]? = some v → wx.cell? ⟨g, i, none⟩ = some (.string v.id)) ∧ Below w1.heap.size w1 wx)
                                                      case first => as_aux_lemma =>
                                                        go_wp2_with (first | (go_at_call 11; refine (quorum11 a i cap thr bud vs HL.out hn6 ht1 HWK.out hbu HU.out _ HF.out w1 HV1.out).mono ?_; rintro e w2 ⟨r, m, rfl, hfi, hown, hb2⟩) | fail)
                                                        go_meet
                                                        case rel =>
                                                          have hk := first_some hfi ht1
                                                          obtain ⟨g, cp, rfl, _, hgl, hcl⟩ := own_get hown hk
                                                          exact ⟨g, _, cp, m, rfl, rfl, hk, hfi, hgl, fun i v h => hcl i _ (idCells_get h), hb2⟩
                                                      case rest => as_aux_lemma =>
                                                        obtain ⟨g, k, c, m, rfl, hkl, hk0, hfi, hgl, hgc, hb2⟩ := hcut
                                                        obtain ⟨w2, rfl⟩ : ∃ x : World, x = wc := ⟨_, rfl⟩
                                                        have hkn : k ≤ i := by rw [← hkl, sel_length _ _ hfi.1.1, ← HL.out, ← hfi.1.1]; exact cnt_le m
                                                        have HML : Hid (m.length = vs.length) := hfi.1.1
                                                        have HKL : Hid ((sel vs m).length = k) := hkl
                                                        have HFI : Hid (IsFirst vs thr bud m) := hfi
                                                        have HGC : Hid (∀ i v, (sel vs m)[i]? = some v → w2.cell? ⟨g, i, none⟩ = some (.string v.id)) := hgc
                                                        have HV2 : Hid (Vs w2 a vs) := HV1.out.below hb2
                                                        have HB2 : Hid (Below w.heap.size w w2) := HB1.out.trans (hb2.mono HB1.out.size)
                                                        clear hkl hfi hgc hb2 HV1 HB1 HF hsl
                                                        have hen := eql_nil g k c w2
                                                        go_wp2_with (first | (at_make; refine wpList_make_own _ rfl _ _ 32 rfl w2.heap.size 3 i3 (.int .i64 0) 1 Try.underlying32 hi3 hz30 hz31 .i64 .i64 _ k rfl rfl rfl (by rw [hz32]; omega) (by unfold maxLen; omega) (Nat.le_refl _) ?_; intro w3 hown3 hgrow3) | fail)
                                                        clear hen
                                                        go_loopw [15, 16, 17] (fun av jv gv wq => AtR m i k w2 av jv gv wq) (fun _ _ gv _ => k - (intOf gv).toNat)
                                                        case atStart => exact AtR.start hown3 (grown_below hgrow3 (Nat.le_refl _) (by simp))
                                                        case round => as_aux_lemma =>
                                                          clear hown3 hgrow3
                                                          obtain ⟨s, j, hs, rfl, rfl, hjn, hjp, hown, hbel⟩ := hrel.opened
                                                          obtain ⟨ao, cp, rfl⟩ := own_form hown
                                                          obtain ⟨wo, rfl⟩ : ∃ x : World, x = wr := ⟨_, rfl⟩
                                                          clear hrel
                                                          by_cases hlt : s < k
                                                          · as_aux_lemma =>
                                                              obtain ⟨p, v, hp, hpn, hvp, hsp⟩ := place_at HML.out (show s < (sel vs m).length by rw [HKL.out]; exact hlt)
                                                              rw [HL.out] at hpn
                                                              have hjp' := hjp p hp
                                                              have HP : Hid ((plc 0 m)[s]? = some p) := hp
                                                              have HVP : Hid (vs[p]? = some v) := hvp
                                                              have HSP : Hid (w2.cell? ⟨g, s, none⟩ = some (.string v.id)) := HGC.out s v hsp
                                                              have HO : Hid (wo.ownsRow w2.heap.size 3 1 (.slice ao s cp) s (atCells ((plc 0 m).take s))) := hown
                                                              have HBe : Hid (Below w2.heap.size w2 wo) := hbel
                                                              clear hp hvp hsp hown hbel hjp
                                                              go_wp2_with fail
                                                              go_loopw [16] (fun jv wq => JR (atCells ((plc 0 m).take s)) s p w2 (.slice ao s cp) jv wq) (fun jv _ => p - (intOf jv).toNat)
                                                              case atStart => exact JR.start hjp' HO.out HBe.out
                                                              case round => as_aux_lemma =>
                                                                clear HO HBe hjp' hjn
                                                                obtain ⟨jj, hjj, rfl, hown, hbel⟩ := hrel.opened
                                                                clear hrel
                                                                have gi := (hbel.cell (show (⟨g, s, none⟩ : Addr).block < w2.heap.size from hgl)).trans HSP.out
                                                                have HO : Hid (wr.ownsRow w2.heap.size 3 1 (.slice ao s cp) s (atCells ((plc 0 m).take s))) := hown
                                                                have HBe : Hid (Below w2.heap.size w2 wr) := hbel
                                                                obtain ⟨u, hu⟩ : ∃ u, vs[jj]? = some u := ⟨_, List.getElem?_eq_getElem (by rw [HL.out]; omega)⟩
                                                                obtain ⟨b, o, rfl, hbl, hVj⟩ := HV2.out jj u hu
                                                                obtain ⟨d0, _, _⟩ := hVj.below hbel hbl
                                                                have j0 : (0 : Int) ≤ (jj : Int) := Int.natCast_nonneg _
                                                                have j1 : (jj : Int) < (i : Int) := by omega
                                                                have s0 : (0 : Int) ≤ (s : Int) := Int.natCast_nonneg _
                                                                have s1 : (s : Int) < (k : Int) := by omega
                                                                have hjd : decide ((jj : Int) < (i : Int)) = true := decide_eq_true j1
                                                                have hji : jj < i := by omega
                                                                by_cases hne : jj < p
                                                                · as_aux_lemma =>
                                                                    have hb1 := bytes_ne (HDS.out jj p u v hji hne hu HVP.out)
                                                                    clear hVj hu hown hbel
                                                                    go_wp2_with fail
                                                                    go_quiet (fail)
                                                                    go_wp2
                                                                    go_roundw
                                                                    case rel => exact JR.step hne (own_drewN HO.out _) (HBe.out.trans ((qmS.below_drewN _ _).mono HBe.out.size))
                                                                    case measure => simp [intOf]; omega
                                                                · as_aux_lemma =>
                                                                    obtain rfl : jj = p := by omega
                                                                    have huv : u = v := by
                                                                      have := HVP.out
                                                                      rw [hu] at this
                                                                      simpa using this
                                                                    subst huv
                                                                    clear hVj hu hown hbel
                                                                    go_wp2_with fail
                                                                    go_quiet (fail)
                                                                    have hpb : ((jj : Int) == (i : Int)) = false := by simp; omega
                                                                    obtain ⟨W, hW⟩ : ∃ W, W = wr.drewN nq := ⟨_, rfl⟩
                                                                    rw [← hW]
                                                                    have HOW : Hid (W.ownsRow w2.heap.size 3 1 (.slice ao s cp) s (atCells ((plc 0 m).take s))) := by rw [hW]; exact own_drewN HO.out _
                                                                    have HBW : Hid (Below w2.heap.size w2 W) := by rw [hW]; exact HBe.out.trans ((qmS.below_drewN _ _).mono HBe.out.size)
                                                                    have hsW := HBW.out.size
                                                                    clear hW HO HBe gi d0
                                                                    go_wp2_with (first | (at_builtin; refine wpList_append_lies _ rfl (.tmp 139) (.tmp 141) 32 rfl w2.heap.size 3 i3 (.int .i64 0) 1 8 Try.underlying32 hi3 hz30 hz31 hz32 rfl (by decide) (.slice ao s cp) s (atCells ((plc 0 m).take s)) rfl (own_alloc HOW.out _) ⟨W.heap.size, 0, none⟩ 1 1 [.int .i64 (jj : Int)] rfl rfl (World.news_of_block (cs := #[.int .i64 (jj : Int)]) (t := 3) (fr := (0, 0)) (heap_alloc_new W _)) (by simp [Value.oneCell']) (by omega) (by unfold maxLen; omega) (by omega) (by simp; omega) (W.heap.size + 1) (by simp) ?_; intro g5 cap5 w5 hown5 hgrow5 hat5 hlt5) | fail)
                                                                    go_roundw
                                                                    case rel => exact AtR.step hlt HP.out hji hown5 ((HBW.out.alloc hsW _).trans (grown_below hgrow5 (by simp; omega) (own_ge HOW.out)))
                                                                    case measure => simp [intOf]; omega
                                                          · as_aux_lemma =>
                                                              obtain rfl : s = k := by omega
                                                              have HPL : Hid ((plc 0 m).length = s) := by show _ = _; rw [plc_length, ← sel_length _ _ HML.out]; exact HKL.out
                                                              obtain ⟨ga, ca, hae, _, hgal, hac⟩ := own_get hown hk0
                                                              rw [hae]
                                                              rw [List.take_of_length_le (Nat.le_of_eq HPL.out)] at hac
                                                              have HAC : Hid (∀ q p : Nat, (plc 0 m)[q]? = some p → wo.cell? ⟨ga, q, none⟩ = some (.int .i64 (p : Int))) := fun q p h => hac q _ (atCells_get h)
                                                              have HV3 : Hid (Vs wo a vs) := HV2.out.below hbel
                                                              have HB3 : Hid (Below w.heap.size w wo) := HB2.out.trans (hbel.mono HB2.out.size)
                                                              have HGC3 : Hid (∀ i v, (sel vs m)[i]? = some v → wo.cell? ⟨g, i, none⟩ = some (.string v.id)) := fun q v h => (hbel.cell (show (⟨g, q, none⟩ : Addr).block < w2.heap.size from hgl)).trans (HGC.out q v h)
                                                              have hgl3 : g < wo.heap.size := Nat.lt_of_lt_of_le hgl hbel.size
                                                              have HQ : Hid (∀ q, q < s → ∃ p v, (plc 0 m)[q]? = some p ∧ p < i ∧ vs[p]? = some v ∧ (sel vs m)[q]? = some v) := fun q h => (by
                                                                obtain ⟨p, v, h1, h2, h3, h4⟩ := place_at HML.out (show q < (sel vs m).length by rw [HKL.out]; exact h)
                                                                rw [HL.out] at h2
                                                                exact ⟨p, v, h1, h2, h3, h4⟩)
                                                              obtain ⟨S, hS⟩ : ∃ S, S = sel vs m := ⟨_, rfl⟩
                                                              obtain ⟨y, hy⟩ : ∃ y, y = ct vs m := ⟨_, rfl⟩
                                                              have HS : Hid (S = sel vs m) := hS
                                                              have HY : Hid (y = ct vs m ∧ y = sc S ∧ thr ≤ sw S) := ⟨hy, by rw [hy, hS, sc_sel], by rw [hS, sw_sel]; exact HFI.out.1.2.1⟩
                                                              have HSP : Hid (∀ q p, (plc 0 m)[q]? = some p → sw (S.eraseIdx q) < thr) := fun q p h => by rw [hS]; exact spare HFI.out h
                                                              have hyb : y ≤ bud := by rw [hy]; exact HFI.out.1.2.2
                                                              rw [← hS] at HKL HGC3 HQ
                                                              clear hae hac hown hbel HV2 HB2 HGC hgl hjp hjn hlt hs hS hy HPL
                                                              go_upto_region 39 with fail
                                                              go_cut [18, 19] (fun x y wx => x = .int .u64 0 ∧ y = .int .u64 0 ∧ wo = wx)
                                                              case first => as_aux_lemma =>
                                                                go_wp2_with fail
                                                                go_meet
                                                                case rel => exact ⟨rfl, rfl, rfl⟩
                                                              case rest => as_aux_lemma =>
                                                                obtain ⟨rfl, rfl, rfl⟩ := hcut
                                                                go_wp2_with fail
                                                                go_loopw [18, 19, 20] (fun wv cv iv wq => SumR S s thr over wo wv cv iv wq) (fun _ _ iv _ => s - (intOf iv).toNat)
                                                                case atStart => exact SumR.start S s thr over wo
                                                                case round => as_aux_lemma =>
                                                                  obtain ⟨q, hq, rfl, rfl, rfl, rfl⟩ := hrel.opened
                                                                  clear hrel
                                                                  by_cases hlt : q < s
                                                                  · as_aux_lemma =>
                                                                      obtain ⟨p, v, hp, hpn, hvp, hsp⟩ := HQ.out q hlt
                                                                      obtain ⟨b, o, rfl, hbl, d0, d1, d2⟩ := HV3.out p v hvp
                                                                      obtain ⟨p1, p2⟩ := HU.out v (List.mem_of_getElem? hvp)
                                                                      have e0 := HAC.out q p hp
                                                                      have HT : Hid (S.take (q + 1) = S.take q ++ [v]) := take_one hsp
                                                                      obtain ⟨x, hx⟩ : ∃ x, x = min (sw (S.take q)) thr := ⟨_, rfl⟩
                                                                      obtain ⟨z, hz'⟩ : ∃ z, z = min (sc (S.take q)) over := ⟨_, rfl⟩
                                                                      rw [← hx, ← hz']
                                                                      have HX : Hid (x = min (sw (S.take q)) thr ∧ z = min (sc (S.take q)) over) := ⟨hx, hz'⟩
                                                                      have hxl : x ≤ thr := by omega
                                                                      have hyl : z ≤ over := by omega
                                                                      have i0 : (0 : Int) ≤ (q : Int) := Int.natCast_nonneg _
                                                                      have i1 : (q : Int) < (s : Int) := by omega
                                                                      have j0 : (0 : Int) ≤ (p : Int) := Int.natCast_nonneg _
                                                                      have j1 : (p : Int) < (i : Int) := by omega
                                                                      clear hp hvp hsp hx hz'
                                                                      go_upto_region 44 with (first | (go_at_call 10; refine (add10 _ _ _ hxl p1 hthr _).mono ?_; rintro e w' ⟨rfl, rfl⟩) | fail)
                                                                      go_wp2_with (first | (go_at_call 10; refine (add10 _ _ _ hyl p2 hou _).mono ?_; rintro e w' ⟨rfl, rfl⟩) | fail)
                                                                      go_roundw
                                                                      case rel => exact SumR.step wo hlt HT.out HX.out.1 HX.out.2
                                                                      case measure => simp [intOf]; omega
                                                                  · as_aux_lemma =>
                                                                      obtain rfl : q = s := by omega
                                                                      rw [List.take_of_length_le (Nat.le_of_eq HKL.out)]
                                                                      have hx1 : min (sw S) thr = thr := by have := HY.out.2.2; omega
                                                                      have hx2 : min (sc S) over = y := by have := HY.out.2.1; omega
                                                                      rw [hx1, hx2]
                                                                      clear hx1 hx2 hlt hq
                                                                      go_upto_region 47 with fail
                                                                      go_cut [21] (fun lv wx => lv = .int .i64 0 ∧ wo = wx)
                                                                      case first => as_aux_lemma =>
                                                                        go_wp2_with fail
                                                                        go_meet
                                                                        case rel => exact ⟨rfl, rfl⟩
                                                                      case rest => as_aux_lemma =>
                                                                        obtain ⟨rfl, rfl⟩ := hcut
                                                                        go_wp2_with fail
                                                                        go_loopw [21] (fun lv wq => LvR q wo lv wq) (fun lv _ => q - (intOf lv).toNat)
                                                                        case atStart => exact LvR.start q wo
                                                                        case round => as_aux_lemma =>
                                                                          obtain ⟨l, hl, rfl, rfl⟩ := hrel.opened
                                                                          clear hrel
                                                                          by_cases hlt : l < q
                                                                          · as_aux_lemma =>
                                                                              go_wp2_with fail
                                                                              go_loopw [22, 23] (fun rv iv wq => RsR S q l thr wo rv iv wq) (fun _ iv _ => q - (intOf iv).toNat)
                                                                              case atStart => exact RsR.start S q l thr wo
                                                                              case round => as_aux_lemma =>
                                                                                obtain ⟨t, ht, rfl, rfl, rfl⟩ := hrel.opened
                                                                                clear hrel
                                                                                by_cases htl : t < q
                                                                                · as_aux_lemma =>
                                                                                    obtain ⟨p, v, hp, hpn, hvp, hsp⟩ := HQ.out t htl
                                                                                    have HSV : Hid (S[t]? = some v) := hsp
                                                                                    obtain ⟨x, hx⟩ : ∃ x, x = min (sw ((S.take t).eraseIdx l)) thr := ⟨_, rfl⟩
                                                                                    rw [← hx]
                                                                                    have HX : Hid (x = min (sw ((S.take t).eraseIdx l)) thr) := hx
                                                                                    have hxl : x ≤ thr := by omega
                                                                                    by_cases hql : t = l
                                                                                    · as_aux_lemma =>
                                                                                        subst hql
                                                                                        clear hp hvp hsp hx
                                                                                        go_wp2_with fail
                                                                                        go_roundw
                                                                                        case rel => exact RsR.skip wo htl HSV.out HX.out
                                                                                        case measure => simp [intOf]; omega
                                                                                    · as_aux_lemma =>
                                                                                        have hqb : ((t : Int) == (l : Int)) = false := by simp; omega
                                                                                        obtain ⟨b, o, rfl, hbl, d0, d1, d2⟩ := HV3.out p v hvp
                                                                                        obtain ⟨p1, p2⟩ := HU.out v (List.mem_of_getElem? hvp)
                                                                                        have e0 := HAC.out t p hp
                                                                                        have i0 : (0 : Int) ≤ (t : Int) := Int.natCast_nonneg _
                                                                                        have i1 : (t : Int) < (q : Int) := by omega
                                                                                        have j0 : (0 : Int) ≤ (p : Int) := Int.natCast_nonneg _
                                                                                        have j1 : (p : Int) < (i : Int) := by omega
                                                                                        clear hp hvp hsp hx
                                                                                        go_wp2_with (first | (go_at_call 10; refine (add10 _ _ _ hxl p1 hthr _).mono ?_; rintro e w' ⟨rfl, rfl⟩) | fail)
                                                                                        go_roundw
                                                                                        case rel => exact RsR.step wo htl HSV.out hql HX.out
                                                                                        case measure => simp [intOf]; omega
                                                                                · as_aux_lemma =>
                                                                                    obtain rfl : t = q := by omega
                                                                                    rw [List.take_of_length_le (Nat.le_of_eq HKL.out)]
                                                                                    obtain ⟨p, v, hp, _⟩ := HQ.out l hlt
                                                                                    have hsp := HSP.out l p hp
                                                                                    obtain ⟨x, hx⟩ : ∃ x, x = min (sw (S.eraseIdx l)) thr := ⟨_, rfl⟩
                                                                                    rw [← hx]
                                                                                    have hxl : x < thr := by omega
                                                                                    clear hp hsp hx
                                                                                    go_wp2_with fail
                                                                                    go_roundw
                                                                                    case rel => exact LvR.step wo hlt
                                                                                    case measure => simp [intOf]; omega
                                                                          · as_aux_lemma =>
                                                                              obtain rfl : l = q := by omega
                                                                              clear hlt hl
                                                                              go_upto_region 58 with fail
                                                                              go_cut [216] (fun bv wx => bv = .bool false ∧ Below wo.heap.size wo wx)
                                                                              case first => as_aux_lemma =>
                                                                                go_wp2_with (first
                                                                                  | (go_at_call 11; refine (quorum11 a i cap thr y vs HL.out hn6 ht1 HWK.out (by omega) HU.out m ⟨HML.out, HFI.out.1.2.1, Nat.le_of_eq HY.out.1.symm⟩ wo HV3.out).mono ?_
                                                                                     rintro e w4 ⟨r4, m4, rfl, hfi4, hown4, hb4⟩
                                                                                     have hm4 : m4 = m := by
                                                                                       refine first_unique hfi4 ?_
                                                                                       rw [HY.out.1]
                                                                                       exact first_cut HFI.out
                                                                                     subst hm4
                                                                                     rw [← HS.out, HKL.out] at hown4
                                                                                     obtain ⟨g4, c4, rfl, _, hgl4, hcl4⟩ := own_get hown4 hk0
                                                                                     have HC4 : Hid (∀ i v, S[i]? = some v → w4.cell? ⟨g4, i, none⟩ = some (.string v.id)) := fun i v h => hcl4 i _ (idCells_get h)
                                                                                     have HC5 : Hid (∀ i v, S[i]? = some v → w4.cell? ⟨g, i, none⟩ = some (.string v.id)) := fun q v h => (hb4.cell (show (⟨g, q, none⟩ : Addr).block < wo.heap.size from hgl3)).trans (HGC3.out q v h)
                                                                                     have hgl5 : g < w4.heap.size := Nat.lt_of_lt_of_le hgl3 hb4.size
                                                                                     clear hcl4 hown4 hfi4)
                                                                                  | (go_at_call 12; refine (same12 g4 c4 g c l S HKL.out (by omega) w4 hgl4 hgl5 HC4.out HC5.out).mono ?_; rintro e w5 ⟨rfl, hb5⟩)
                                                                                  | fail)
                                                                                go_meet
                                                                                case rel => exact ⟨rfl, hb4.trans (hb5.mono hb4.size)⟩
                                                                              case rest => as_aux_lemma =>
                                                                                obtain ⟨rfl, hb4⟩ := hcut
                                                                                obtain ⟨w4, rfl⟩ : ∃ x : World, x = wc := ⟨_, rfl⟩
                                                                                have HV4 : Hid (Vs w4 a vs) := HV3.out.below hb4
                                                                                have HB4 : Hid (Below w.heap.size w w4) := HB3.out.trans (hb4.mono HB3.out.size)
                                                                                have HGC4 : Hid (∀ i v, S[i]? = some v → w4.cell? ⟨g, i, none⟩ = some (.string v.id)) := fun q v h => (hb4.cell (show (⟨g, q, none⟩ : Addr).block < wo.heap.size from hgl3)).trans (HGC3.out q v h)
                                                                                have HAC4 : Hid (∀ q p : Nat, (plc 0 m)[q]? = some p → w4.cell? ⟨ga, q, none⟩ = some (.int .i64 (p : Int))) := fun q p h => (hb4.cell (show (⟨ga, q, none⟩ : Addr).block < wo.heap.size from hgal)).trans (HAC.out q p h)
                                                                                have hgl4 : g < w4.heap.size := Nat.lt_of_lt_of_le hgl3 hb4.size
                                                                                clear HV3 HB3 HGC3 HAC hgl3 hgal hb4
                                                                                go_wp2_with fail
                                                                                go_loopw [24, 25] (fun dv iv wq => DrR (plc 0 m) l d w4 dv iv wq) (fun _ iv _ => l - (intOf iv).toNat)
                                                                                case atStart => exact DrR.start (plc 0 m) l d w4
                                                                                case round => as_aux_lemma =>
                                                                                  obtain ⟨q, f, hq, rfl, hf, rfl, rfl⟩ := hrel.opened
                                                                                  clear hrel
                                                                                  have HFd : Hid (f = true ↔ d ∈ (plc 0 m).take q) := hf
                                                                                  clear hf
                                                                                  by_cases hlt : q < l
                                                                                  · as_aux_lemma =>
                                                                                      obtain ⟨p, v, hp, hpn, _⟩ := HQ.out q hlt
                                                                                      have e0 := HAC4.out q p hp
                                                                                      have HP : Hid ((plc 0 m)[q]? = some p) := hp
                                                                                      have i0 : (0 : Int) ≤ (q : Int) := Int.natCast_nonneg _
                                                                                      have i1 : (q : Int) < (l : Int) := by omega
                                                                                      clear hp
                                                                                      by_cases hpd : p = d
                                                                                      · as_aux_lemma =>
                                                                                          subst hpd
                                                                                          go_wp2_with fail
                                                                                          go_roundw
                                                                                          case rel => exact DrR.hit w4 hlt HP.out
                                                                                          case measure => simp [intOf]; omega
                                                                                      · as_aux_lemma =>
                                                                                          have hpb : ((p : Int) == (d : Int)) = false := by simp; omega
                                                                                          go_wp2_with fail
                                                                                          go_roundw
                                                                                          case rel => exact DrR.miss w4 hlt HP.out hpd HFd.out
                                                                                          case measure => simp [intOf]; omega
                                                                                  · as_aux_lemma =>
                                                                                      obtain rfl : q = l := by omega
                                                                                      cases f with
                                                                                      | true =>
                                                                                        go_wp2
                                                                                        go_ret
                                                                                        exact ⟨rfl, HB4.out⟩
                                                                                      | false =>
                                                                                        have HMD : Hid (m[d]? = some false) := not_place HML.out (by rw [HL.out]; exact hdl) (fun hd => by
                                                                                          have h1 := HFd.out.2 (by rw [List.take_of_length_le (by rw [plc_length, ← sel_length _ _ HML.out, ← HS.out, HKL.out]; exact Nat.le_refl _)]; exact hd)
                                                                                          simp at h1)
                                                                                        obtain ⟨n0, hn0⟩ : ∃ n0, n0 = i - 1 := ⟨_, rfl⟩
                                                                                        have en0 : (i : Int) - 1 = (n0 : Int) := by omega
                                                                                        have hn02 : n0 ≤ 256 := by omega
                                                                                        clear HFd hlt hn0 hq HAC4 HQ HSP
                                                                                        go_upto_region 67 with fail
                                                                                        go_cut [26] (fun rv wx => wx.ownsRow w4.heap.size 29 3 rv 0 [] ∧ Below w4.heap.size w4 wx)
                                                                                        case first => as_aux_lemma =>
                                                                                          go_wp2_with (first | (at_make; refine wpList_make_own _ rfl _ _ 22 rfl w4.heap.size 29 i29 (.agg #[.string ⟨#[]⟩, .int .u64 0, .int .u64 0]) 3 Try.underlying22 hi29 hz290 hz291 .i64 .i64 _ n0 rfl rfl rfl (by rw [hz292]; omega) (by unfold maxLen; omega) (Nat.le_refl _) ?_; intro w5 hown5 hgrow5) | fail)
                                                                                          go_meet
                                                                                          case rel => exact ⟨hown5, grown_below hgrow5 (Nat.le_refl _) (by simp)⟩
                                                                                        case rest => as_aux_lemma =>
                                                                                          obtain ⟨hown5, hb5⟩ := hcut
                                                                                          go_wp2_with fail
                                                                                          go_loopw [26, 27] (fun rv iv wq => ReR vs i d w4 rv iv wq) (fun _ iv _ => i - (intOf iv).toNat)
                                                                                          case atStart => exact ReR.start hown5 hb5
                                                                                          case round => as_aux_lemma =>
                                                                                            clear hown5 hb5
                                                                                            obtain ⟨t, ht, rfl, hown, hbel⟩ := hrel.opened
                                                                                            clear hrel
                                                                                            obtain ⟨ao, cp, rfl⟩ := own_form hown
                                                                                            obtain ⟨F, hF⟩ : ∃ F, (vs.take t).eraseIdx d = F := ⟨_, rfl⟩
                                                                                            rw [hF] at hown ⊢
                                                                                            have HFF : Hid ((vs.take t).eraseIdx d = F) := hF
                                                                                            have hfl : F.length ≤ 256 := by
                                                                                              rw [← hF]
                                                                                              exact Nat.le_trans (List.length_eraseIdx_le _ _) (by rw [List.length_take]; omega)
                                                                                            have HO : Hid (wr.ownsRow w4.heap.size 29 3 (.slice ao F.length cp) F.length (vtCells F)) := hown
                                                                                            have HBr : Hid (Below w4.heap.size w4 wr) := hbel
                                                                                            clear hF hown
                                                                                            by_cases hti : t < i
                                                                                            · as_aux_lemma =>
                                                                                                obtain ⟨v, hv⟩ : ∃ v, vs[t]? = some v := ⟨_, List.getElem?_eq_getElem (by rw [HL.out]; exact hti)⟩
                                                                                                have HVv : Hid (vs[t]? = some v) := hv
                                                                                                by_cases htd : t = d
                                                                                                · as_aux_lemma =>
                                                                                                    subst htd
                                                                                                    clear hv hbel
                                                                                                    go_wp2_with fail
                                                                                                    go_roundw
                                                                                                    case rel => exact ReR.skip hti HVv.out HFF.out HO.out HBr.out
                                                                                                    case measure => simp [intOf]; omega
                                                                                                · as_aux_lemma =>
                                                                                                    have htb : ((t : Int) == (d : Int)) = false := by simp; omega
                                                                                                    obtain ⟨b, o, rfl, hbl, hVj⟩ := HV4.out t v hv
                                                                                                    obtain ⟨d0, d1, d2⟩ := hVj.below hbel hbl
                                                                                                    have i0 : (0 : Int) ≤ (t : Int) := Int.natCast_nonneg _
                                                                                                    have i1 : (t : Int) < (i : Int) := by omega
                                                                                                    have hsr := hbel.size
                                                                                                    clear hv hbel hVj
                                                                                                    go_wp2_with (first | (at_builtin; refine wpList_append_lies _ rfl (.tmp 242) (.tmp 247) 22 rfl w4.heap.size 29 i29 (.agg #[.string ⟨#[]⟩, .int .u64 0, .int .u64 0]) 3 32 Try.underlying22 hi29 hz290 hz291 hz292 rfl (by decide) (.slice ao F.length cp) F.length (vtCells F) rfl (own_alloc HO.out _) ⟨wr.heap.size, 0, none⟩ 1 1 [.string v.id, .int .u64 v.w, .int .u64 v.c] rfl rfl (World.news_of_block (cs := #[.string v.id, .int .u64 v.w, .int .u64 v.c]) (t := 29) (fr := (0, 0)) (heap_alloc_new wr _)) (by simp [Value.oneCell']) (by omega) (by unfold maxLen; omega) (by omega) (by simp; omega) (wr.heap.size + 1) (by simp) ?_; intro g5 cap5 w5 hown5 hgrow5 hat5 hlt5) | fail)
                                                                                                    go_roundw
                                                                                                    case rel => exact ReR.step hti HVv.out htd HFF.out hown5 ((HBr.out.alloc hsr _).trans (grown_below hgrow5 (by simp; omega) (own_ge HO.out)))
                                                                                                    case measure => simp [intOf]; omega
                                                                                            · as_aux_lemma =>
                                                                                                obtain rfl : t = i := by omega
                                                                                                have hFv : F = vs.eraseIdx d := by
                                                                                                  have := HFF.out
                                                                                                  rw [List.take_of_length_le (Nat.le_of_eq HL.out)] at this
                                                                                                  exact this.symm
                                                                                                have hFl : F.length = n0 := by rw [hFv, List.length_eraseIdx_of_lt (by rw [HL.out]; exact hdl), HL.out]; omega
                                                                                                have HFU : Hid (∀ v ∈ F, U v.w ∧ U v.c) := fun v hv => HU.out v (by rw [hFv] at hv; exact List.mem_of_mem_eraseIdx hv)
                                                                                                obtain ⟨hdr, hse⟩ := first_drop HFI.out d HMD.out
                                                                                                rw [← hFv] at hdr hse
                                                                                                have HDR : Hid (IsFirst F thr bud (m.eraseIdx d)) := hdr
                                                                                                have HSE : Hid (sel F (m.eraseIdx d) = S) := hse.trans HS.out.symm
                                                                                                have HFV : Hid (Vs wr ao F) := own_vs HO.out
                                                                                                have HFW : Hid ((n0 + 1) * (n0 + 1) * (thr + 1) ≤ 4194304) := Nat.le_trans (Nat.mul_le_mul_right _ (Nat.mul_le_mul (show n0 + 1 ≤ t + 1 by omega) (show n0 + 1 ≤ t + 1 by omega))) HWK.out
                                                                                                have HFL : Hid (F.length = n0) := hFl
                                                                                                have HGC5 : Hid (∀ i v, S[i]? = some v → wr.cell? ⟨g, i, none⟩ = some (.string v.id)) := fun q v h => (hbel.cell (show (⟨g, q, none⟩ : Addr).block < w4.heap.size from hgl4)).trans (HGC4.out q v h)
                                                                                                have hgl5 : g < wr.heap.size := Nat.lt_of_lt_of_le hgl4 hbel.size
                                                                                                have HB5 : Hid (Below w.heap.size w wr) := HB4.out.trans (hbel.mono HB4.out.size)
                                                                                                rw [hFl]
                                                                                                clear hFv hdr hse hFl hbel hti ht HO HBr hfl HFF
                                                                                                go_wp2_with (first
                                                                                                  | (go_at_call 11; refine (quorum11 ao n0 cp thr bud F HFL.out hn02 ht1 HFW.out hbu HFU.out _ HDR.out.1 wr HFV.out).mono ?_
                                                                                                     rintro e w6 ⟨r6, m6, rfl, hfi6, hown6, hb6⟩
                                                                                                     have hm6 : m6 = m.eraseIdx d := first_unique hfi6 HDR.out
                                                                                                     subst hm6
                                                                                                     rw [HSE.out, HKL.out] at hown6
                                                                                                     obtain ⟨g6, c6, rfl, _, hgl6, hcl6⟩ := own_get hown6 hk0
                                                                                                     have HC6 : Hid (∀ i v, S[i]? = some v → w6.cell? ⟨g6, i, none⟩ = some (.string v.id)) := fun i v h => hcl6 i _ (idCells_get h)
                                                                                                     have HC7 : Hid (∀ i v, S[i]? = some v → w6.cell? ⟨g, i, none⟩ = some (.string v.id)) := fun q v h => (hb6.cell (show (⟨g, q, none⟩ : Addr).block < wr.heap.size from hgl5)).trans (HGC5.out q v h)
                                                                                                     have hgl7 : g < w6.heap.size := Nat.lt_of_lt_of_le hgl5 hb6.size
                                                                                                     clear hcl6 hown6 hfi6)
                                                                                                  | (go_at_call 12; refine (same12 g6 c6 g c q S HKL.out (by omega) w6 hgl6 hgl7 HC6.out HC7.out).mono ?_; rintro e w7 ⟨rfl, hb7⟩)
                                                                                                  | fail)
                                                                                                go_ret
                                                                                                exact ⟨rfl, HB5.out.trans ((hb6.trans (hb7.mono hb6.size)).mono HB5.out.size)⟩
end Go.Proofs.Qxb6608623a.qmZ
