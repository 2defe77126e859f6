/- THE WALK of firstByTables. -/
import Derived.Test.Qxb6608623aQmC
import Derived.Test.Qxb6608623aQmD
import Derived.Deep.RegionWith
namespace Go.Proofs.Qxb6608623a.qmA
open Go.RowKit
open Go.Proofs.Qxb6608623a.Qm
open Go.Proofs.Qxb6608623a.qmW
open Go.Proofs.Qxb6608623a.qmS
open Go.Proofs.Qxb6608623a.qmI
open Go.Proofs.Qxb6608623a.qmR
open Go.Proofs.Qxb6608623a.qmL
set_option linter.unusedVariables false
attribute [local go_sem ↓] Go.wp_at_zero Go.wp_at_succ

theorem info64 : (Try.prog.info? 64).map (fun i => (i.zero, i.size, i.bytes)) = some (some (.slice none 0 0), 1, 24) := by kernel_rfl

set_option maxRecDepth 100000 in
set_option maxHeartbeats 8000000 in
theorem tables46 (b o n cap thr bud : Nat) (vs : List Vt) (hvs : vs.length = n) (hn1 : 1 ≤ n) (hn : n ≤ 256) (ht1 : 1 ≤ thr) (hwork : (n + 1) * (thr + 1) ≤ 4194304) (hbud : bud < 18446744073709551615)
    (hpos : ∀ v ∈ vs, 0 < v.w ∧ U v.w ∧ U v.c) (m0 : List Bool) (hfeas : Feas vs thr bud m0) (w : World) (hb : b < w.heap.size) (hcell : ∀ i v, vs[i]? = some v → VtAt w b o i v) :
    Calls Try.prog 46 #[.slice (some ⟨b, o, none⟩) n cap, .int .u64 thr, .int .u64 bud] w
      fun e w' => ∃ r m, e = .returned r ∧ IsFirst vs thr bud m ∧ w'.ownsRow w.heap.size 9 1 r (sel vs m).length (idCells (sel vs m)) ∧ Below w.heap.size w w' := by
  obtain ⟨i64, hi64, hz640, hz641, hz642⟩ := info_parts info64
  obtain ⟨i9, hi9, hz90, hz91, hz92⟩ := info_parts info9
  obtain ⟨i23, hi23, hz230, hz231, hz232⟩ := info_parts info23
  have ht : thr ≤ 4194304 := by
    have : 1 * (thr + 1) ≤ (n + 1) * (thr + 1) := Nat.mul_le_mul_right _ (by omega)
    omega
  have HC : Hid (∀ i v, vs[i]? = some v → VtAt w b o i v) := hcell
  have HV : Hid (vs.length = n) := hvs
  have HP : Hid (∀ v ∈ vs, 0 < v.w ∧ U v.w ∧ U v.c) := hpos
  have HF : Hid (Feas vs thr bud m0) := hfeas
  have HW : Hid ((n + 1) * (thr + 1) ≤ 4194304) := hwork
  clear hcell hvs hpos hfeas hwork
  obtain ⟨cols, hcols⟩ : ∃ cols, cols = thr + 1 := ⟨_, rfl⟩
  obtain ⟨over, hover⟩ : ∃ over, over = bud + 1 := ⟨_, rfl⟩
  have ec : (thr : Int) + 1 = (cols : Int) := by omega
  have eo : (bud : Int) + 1 = (over : Int) := by omega
  have HCO : Hid (cols = thr + 1) := hcols
  have HOV : Hid (over = bud + 1) := hover
  have hc1 : 2 ≤ cols := by omega
  have hc2 : cols ≤ 4194305 := by omega
  have hct : thr < cols := by omega
  have hou : over ≤ 18446744073709551615 := by omega
  have hbo : bud < over := by omega
  clear hcols hover
  have HB0 : Hid (Below w.heap.size w (w.alloc (.cells #[.int .u64 over] 23))) := (Below.refl _ _).alloc (Nat.le_refl _) _
  have hx0 : (w.alloc (.cells #[.int .u64 over] 23)).cell? ⟨w.heap.size, 0, none⟩ = some (.int .u64 over) := by
    have := heap_alloc_new w (.cells #[.int .u64 over] 23)
    simp only [World.cell?, this]
    rfl
  go_enter Try.func46, Try.ntmps46
  go_upto_region 6 with (first | (go_at_call 49; refine (repeat49 w.heap.size 1 cols over (by omega) (by omega) _ hx0).mono ?_; rintro e w1 ⟨rfl, hG, hb1⟩; have HR1 : Hid (RowIs w1 (w.heap.size + 1) (fun _ => over) cols) := row_of hG; have HB1 : Hid (Below w.heap.size w w1) := HB0.out.trans (hb1.mono (by simp)); have hsz1 := lt_of_some (row_of hG); obtain ⟨c0, f0⟩ := RowIs.cell (j := 0) (row_of hG) (by omega); clear hG hb1) | fail)
  have HR2 : Hid (RowIs (w1.setCell ⟨w.heap.size + 1, 0, none⟩ (.int .u64 0)) (w.heap.size + 1) (row0 over) cols) := (HR1.out.set 0 0).ext (fun j _ => by unfold row0; rfl)
  have HB2 : Hid (Below w.heap.size w (w1.setCell ⟨w.heap.size + 1, 0, none⟩ (.int .u64 0))) := below_setCell HB1.out (by simp) _
  clear c0 f0 HR1 HB1 hsz1 hx0 HB0
  go_wp2_with fail
  go_loopw [45] (fun i wr => ∃ k : Nat, k ≤ n ∧ i = .int .i64 k ∧ RowIs wr (w.heap.size + 1) ((vs.take k).foldl (rowStep over) (row0 over)) cols ∧ Below w.heap.size w wr) (fun i _ => n - (intOf i).toNat)
  case atStart => exact ⟨0, Nat.zero_le _, rfl, HR2.out, HB2.out⟩
  case round =>
    clear HR2 HB2
    obtain ⟨k, hk, rfl, hrow, hbel⟩ := hrel
    have HR : Hid (RowIs wr (w.heap.size + 1) ((vs.take k).foldl (rowStep over) (row0 over)) cols) := hrow
    have HB : Hid (Below w.heap.size w wr) := hbel
    have hsz := lt_of_some hrow
    clear hrow hbel
    by_cases hlt : k < n
    · obtain ⟨v, hv⟩ : ∃ v, vs[k]? = some v := ⟨_, List.getElem?_eq_getElem (by rw [HV.out]; exact hlt)⟩
      obtain ⟨d0, d1, d2⟩ := (HC.out k v hv).below HB.out hb
      obtain ⟨p0, p1, p2⟩ := HP.out v (List.mem_of_getElem? hv)
      have HST : Hid ((vs.take (k + 1)).foldl (rowStep over) (row0 over) = rowStep over ((vs.take k).foldl (rowStep over) (row0 over)) v) := take_foldl hv _ _
      have hf0 := row_zero (over := over) (vs.take k) (row0 over) rfl
      have hfo := row_over (over := over) (vs.take k) (row0 over) (fun w => by unfold row0; split <;> omega)
      generalize hfd : (vs.take k).foldl (rowStep over) (row0 over) = f at *
      clear hfd hv
      obtain ⟨wo, rfl⟩ : ∃ x : World, x = wr := ⟨_, rfl⟩
      have HR1 : Hid (RowIs (wo.alloc (.cells #[.string v.id, .int .u64 v.w, .int .u64 v.c] 86)) (w.heap.size + 1) (mix f (rowStep over f v) thr) cols) :=
        (HR.out.congr (Below.heap_alloc _ _ _ hsz)).ext (fun j hj => by unfold mix; rw [if_neg (by omega)])
      have HB1 : Hid (Below w.heap.size w (wo.alloc (.cells #[.string v.id, .int .u64 v.w, .int .u64 v.c] 86))) := HB.out.alloc (by omega) _
      have HV1 : Hid ((wo.alloc (.cells #[.string v.id, .int .u64 v.w, .int .u64 v.c] 86)).heap[wo.heap.size]? = some (.cells #[.string v.id, .int .u64 v.w, .int .u64 v.c] 86 (0, 0))) := heap_alloc_new _ _
      go_wp2_with fail
      go_loopw [14] (fun j wq => ∃ q : Nat, q ≤ thr ∧ j = .int .i64 q ∧ RowIs wq (w.heap.size + 1) (mix f (rowStep over f v) q) cols ∧ wq.heap[wo.heap.size]? = some (.cells #[.string v.id, .int .u64 v.w, .int .u64 v.c] 86 (0, 0)) ∧ Below w.heap.size w wq) (fun j _ => (intOf j).toNat)
      case atStart => exact ⟨thr, Nat.le_refl _, by go_num, HR1.out, HV1.out, HB1.out⟩
      case round =>
        clear HR1 HV1 HB1 d0 d1 d2
        obtain ⟨q, hq, rfl, hrow, hvb, hbel⟩ := hrel
        by_cases hq0 : 0 < q
        · obtain ⟨c1, fz⟩ := hrow.cell (j := q) (by omega)
          obtain ⟨c2, _⟩ := hrow.cell (j := q - v.w) (by omega)
          obtain ⟨_, e1, e2⟩ := at_three hvb
          have m1 : mix f (rowStep over f v) q q = f q := by unfold mix; rw [if_neg (by omega)]
          have m2 : mix f (rowStep over f v) q (q - v.w) = f (q - v.w) := by unfold mix; rw [if_neg (by omega)]
          rw [m1] at c1
          rw [m2] at c2
          have hfq := hfo (q - v.w)
          have hfq2 := hfo q
          have HRW : Hid (RowIs wr (w.heap.size + 1) (mix f (rowStep over f v) q) cols) := hrow
          have HVB : Hid (wr.heap[wo.heap.size]? = some (.cells #[.string v.id, .int .u64 v.w, .int .u64 v.c] 86 (0, 0))) := hvb
          have i0 : (0 : Int) ≤ (q : Int) := Int.natCast_nonneg _
          have i1 : (q : Int) < (cols : Int) := by omega
          have i2 : (0 : Int) ≤ ((q - v.w : Nat) : Int) := Int.natCast_nonneg _
          have i3 : ((q - v.w : Nat) : Int) < (cols : Int) := by omega
          have ewq : IntKind.u64.wrap (q : Int) = (q : Int) := by rw [IntKind.wrap_u64]; omega
          clear hrow hvb m1 m2
          go_wp2_with fail
          go_region_with (first | (go_at_call 48; refine (below48 _ _ (by unfold U; omega) (by assumption) _).mono ?_; rintro e w' ⟨rfl, rfl⟩) | (go_at_call 44; refine (add44 _ _ _ (by assumption) (by assumption) (by assumption) _).mono ?_; rintro e w' ⟨rfl, rfl⟩))
          all_goals
            go_wp2
            go_roundw
            case rel =>
              refine ⟨q - 1, by omega, by go_num, ?_, ?_, ?_⟩
              · have e : (if addU (f (q - v.w)) v.c over < f q then ((addU (f (q - v.w)) v.c over : Nat) : Int) else ((f q : Nat) : Int)) = ((rowStep over f v q : Nat) : Int) := by
                  unfold rowStep
                  split <;> omega
                rw [e]
                exact (RowIs.set HRW.out q (rowStep over f v q)).ext (fun j hj => by
                  unfold mix
                  by_cases hj : j = q
                  · subst hj
                    rw [if_pos rfl, if_pos (by omega)]
                  · rw [if_neg hj]
                    by_cases h2 : q < j
                    · rw [if_pos h2, if_pos (by omega)]
                    · rw [if_neg h2, if_neg (by omega)])
              · show (wr.setCell _ _).heap[wo.heap.size]? = _
                rw [Below.heap_setCell _ _ _ _ (by simp; omega)]
                exact HVB.out
              · exact (below_setCell hbel (by simp) _).drew
            case measure => simp [intOf]; omega
        · obtain rfl : q = 0 := by omega
          have HRW : Hid (RowIs wr (w.heap.size + 1) (rowStep over f v) cols) := hrow.ext (fun j hj => by
            unfold mix
            by_cases h0 : 0 < j
            · rw [if_pos h0]
            · obtain rfl : j = 0 := by omega
              rw [if_neg h0]
              unfold rowStep
              rw [hf0]
              omega)
          clear hrow hvb
          go_wp2
          go_roundw
          case rel => exact ⟨k + 1, by omega, by go_num, by rw [HST.out]; exact HRW.out, hbel⟩
          case measure => simp [intOf]; omega
    · as_aux_lemma =>
        obtain rfl : k = n := by omega
        have hfe := row_feas (over := over) m0 HF.out
        rw [List.take_of_length_le (by rw [HV.out]; exact Nat.le_refl _)] at HR
        obtain ⟨c1, _⟩ := RowIs.cell HR.out (j := thr) hct
        generalize (vs.foldl (rowStep over) (row0 over)) thr = rt at *
        obtain ⟨wo, rfl⟩ : ∃ x : World, x = wr := ⟨_, rfl⟩
        obtain ⟨K1, hK1⟩ : ∃ K1, K1 = k + 1 := ⟨_, rfl⟩
        have eK : (k : Int) + 1 = (K1 : Int) := by omega
        have HK : Hid (K1 = k + 1) := hK1
        have hK2 : k < K1 := by omega
        have hK3 : K1 ≤ 257 := by omega
        clear hK1
        go_upto_region 17 with (first | (at_make; refine wpList_make_full _ rfl _ _ 94 rfl w.heap.size 64 i64 (.slice none 0 0) 1 Try.underlying94 hi64 hz640 hz641 .i64 .i64 _ _ K1 rfl rfl (by omega) (by omega) (by rw [hz642]; omega) (by unfold maxLen; omega) (by omega) ?_; intro w3 hown3 hgrow3) | fail)
        obtain ⟨Z, hZ⟩ : ∃ Z, Z = (madeCells (Value.cells (.slice none 0 0)) (K1 * 1)).toList := ⟨_, rfl⟩
        rw [← hZ] at hown3
        obtain ⟨hZl, hL3⟩ := made_row hown3
        have HB3 : Hid (Below w.heap.size w w3) := HB.out.trans (grown_below hgrow3 (by omega) (by simp))
        have hLs := lt_of_some hL3
        have HL3 : Hid (Z.length = K1 ∧ w3.heap[wo.heap.size]? = some (.cells Z.toArray 64 (0, 0))) := ⟨hZl, hL3⟩
        have hge : w.heap.size < wo.heap.size := by omega
        clear hown3 hgrow3 hZ hZl hL3 HR HB c1
        have hx3 : (w3.alloc (.cells #[.int .u64 over] 23)).cell? ⟨w3.heap.size, 0, none⟩ = some (.int .u64 over) := by
          have := heap_alloc_new w3 (.cells #[.int .u64 over] 23)
          simp only [World.cell?, this]
          rfl
        go_upto_region 19 with (first | (go_at_call 49; refine (repeat49 w3.heap.size 1 cols over (by omega) (by omega) _ hx3).mono ?_; rintro e w4 ⟨rfl, hG, hb4⟩; obtain ⟨z4, hz4⟩ : ∃ z, Z[k]? = some z := ⟨_, List.getElem?_eq_getElem (by rw [HL3.out.1]; omega)⟩; have HL4 : Hid (CellsAre w4 wo.heap.size Z 64) := CellsAre.congr (w := w3) HL3.out.2 ((hb4.block _ (by simp; omega)).trans (Below.heap_alloc _ _ _ (by omega))); have HR4 : Hid (RowIs w4 (w3.heap.size + 1) (fun _ => over) cols) := row_of hG; have HB4 : Hid (Below w.heap.size w w4) := (HB3.out.alloc (by omega) _).trans (hb4.mono (by simp; omega)); obtain ⟨c4, f4⟩ := HL4.out.cell hz4; obtain ⟨c5, f5⟩ := HR4.out.cell (j := 0) (by omega); clear hG hb4 hz4) | fail)
        have neL : wo.heap.size ≠ w3.heap.size + 1 := by omega
        have HT0 : Hid (Tbl ((w4.setCell ⟨wo.heap.size, k, none⟩ (.slice (some ⟨w3.heap.size + 1, 0, none⟩) cols cols)).setCell ⟨w3.heap.size + 1, 0, none⟩ (.int .u64 0)) w.heap.size wo.heap.size k cols over vs k (fun _ => w3.heap.size + 1) (Z.set k (.slice (some ⟨w3.heap.size + 1, 0, none⟩) cols cols))) := by
          refine Tbl.start ?_ (by have := HL3.out.1; have := HK.out; simp; omega) (List.getElem?_set_self (by rw [HL3.out.1]; omega)) ?_ HV.out (by omega) (by omega)
          · exact (HL4.out.set k _).congr (Below.heap_setCell _ _ _ _ neL)
          · have h1 : RowIs (w4.setCell ⟨wo.heap.size, k, none⟩ (.slice (some ⟨w3.heap.size + 1, 0, none⟩) cols cols)) (w3.heap.size + 1) (fun _ => over) cols := HR4.out.congr (Below.heap_setCell _ _ _ _ (Ne.symm neL))
            exact (h1.set 0 0).ext (fun j _ => rfl)
        have HB5 : Hid (Below w.heap.size w ((w4.setCell ⟨wo.heap.size, k, none⟩ (.slice (some ⟨w3.heap.size + 1, 0, none⟩) cols cols)).setCell ⟨w3.heap.size + 1, 0, none⟩ (.int .u64 0))) := below_setCell (below_setCell HB4.out (by simp; omega) _) (by simp; omega) _
        clear c4 f4 c5 f5 HL4 HR4 HB4 HL3 HB3 hx3
        go_wp2_with fail
        go_loopw [16] (fun iv wr => ∃ (i : Nat) (T : Nat → Nat) (L : List Value), i ≤ k ∧ iv = .int .i64 ((i : Int) - 1) ∧ Tbl wr w.heap.size wo.heap.size k cols over vs i T L ∧ Below w.heap.size w wr) (fun iv _ => (intOf iv + 1).toNat)
        case atStart => exact ⟨k, _, _, Nat.le_refl _, by go_num, HT0.out, HB5.out⟩
        case round => as_aux_lemma =>
          clear HT0 HB5
          obtain ⟨i, T, L, hi, rfl, hT, hbel⟩ := hrel
          obtain ⟨wt, rfl⟩ : ∃ x : World, x = wr := ⟨_, rfl⟩
          by_cases hi0 : 0 < i
          · as_aux_lemma =>
              obtain ⟨p, rfl⟩ : ∃ p, i = p + 1 := ⟨i - 1, by omega⟩
              obtain ⟨v, hv⟩ : ∃ v, vs[p]? = some v := ⟨_, List.getElem?_eq_getElem (by rw [HV.out]; omega)⟩
              obtain ⟨d0, d1, d2⟩ := (HC.out p v hv).below hbel hb
              obtain ⟨p0, p1, p2⟩ := HP.out v (List.mem_of_getElem? hv)
              have eA : ((p + 1 : Nat) : Int) - 1 = (p : Int) := by omega
              rw [eA]
              obtain ⟨p1, hp1⟩ : ∃ p1, p1 = p + 1 := ⟨_, rfl⟩
              have hat := hT.at_ (p + 1) (Nat.le_refl _) hi
              have hrT := hT.row (p + 1) (Nat.le_refl _) hi
              rw [← hp1] at hat hrT
              obtain ⟨g0, hg0⟩ : ∃ g0, g0 = T p1 := ⟨_, rfl⟩
              rw [← hg0] at hat hrT
              obtain ⟨A, hA⟩ : ∃ A, A = (k - p1 + 1) * cols := ⟨_, rfl⟩
              rw [← hA] at hat hrT
              obtain ⟨d, hd⟩ : ∃ d, d = k - p := ⟨_, rfl⟩
              obtain ⟨d1, hd1⟩ : ∃ d1, d1 = d + 1 := ⟨_, rfl⟩
              obtain ⟨N1, hN1⟩ : ∃ N1, N1 = d1 * cols := ⟨_, rfl⟩
              have hAd : A = d * cols := by rw [hA, show k - p1 + 1 = d by omega]
              have hNA : N1 = A + cols := by rw [hN1, hAd, hd1, Nat.add_mul, Nat.one_mul]
              obtain ⟨A2, hA2⟩ : ∃ A2, A2 = (d - 1) * cols := ⟨_, rfl⟩
              have hAA : A2 + cols = A := by
                rw [hAd, hA2]
                conv => rhs; rw [show d = (d - 1) + 1 by omega, Nat.add_mul, Nat.one_mul]
              have hNM : N1 ≤ 4194304 := by
                rw [hN1, HCO.out]
                exact Nat.le_trans (Nat.mul_le_mul_right _ (by omega)) HW.out
              have ew1 : IntKind.i64.wrap ((p : Int) + 1) = (p1 : Int) := by rw [IntKind.wrap_i64]; omega
              have ed : (k : Int) - (p : Int) = (d : Int) := by omega
              have ed1 : (d : Int) + 1 = (d1 : Int) := by omega
              have eN : (d1 : Int) * (cols : Int) = (N1 : Int) := by rw [hN1]; push_cast; rfl
              have HD : Hid (A = d * cols ∧ N1 = A + cols ∧ N1 = d1 * cols ∧ d = k - p ∧ d1 = d + 1 ∧ p1 = p + 1 ∧ A = (k - p1 + 1) * cols ∧ g0 = T p1) := ⟨hAd, hNA, hN1, hd, hd1, hp1, hA, hg0⟩
              have HT : Hid (Tbl wt w.heap.size wo.heap.size k cols over vs (p + 1) T L) := hT
              have HRT : Hid (RowIs wt g0 (cellOf over cols (vs.drop p1)) A) := hrT
              have HBE : Hid (Below w.heap.size w wt) := hbel
              have HVv : Hid (vs[p]? = some v) := hv
              have hg0l := lt_of_some hrT
              have hd0 : 1 ≤ d := by omega
              have hd2 : d ≤ k := by omega
              obtain ⟨cL, fL⟩ := hT.lst.cell hat
              have i0 : (0 : Int) ≤ (p : Int) := Int.natCast_nonneg _
              have i1 : (p : Int) < (k : Int) := by omega
              have i2 : (0 : Int) ≤ (p1 : Int) := Int.natCast_nonneg _
              have i3 : (p1 : Int) < (K1 : Int) := by omega
              have n1 := World.new_ne wt ⟨b, o + p * 3, none⟩ d0
              have n2 := World.new_ne wt ⟨wo.heap.size, p1, none⟩ cL
              have HDA : Hid (A2 + cols = A) := hAA
              have hA2A : A2 < A := by omega
              have hAN : A < N1 := by omega
              clear hAd hN1 hA2 hd hd1 hA hg0 hT hrT hbel hv hat hp1 hNA hAA
              go_wp2_with fail
              go_region_held3 (fun w' => w'.cell? ⟨b, o + p * 3, none⟩ = some (.string v.id) ∧ w'.cell? ⟨b, o + p * 3 + 1, none⟩ = some (.int .u64 v.w) ∧ w'.cell? ⟨b, o + p * 3 + 2, none⟩ = some (.int .u64 v.c) ∧ w'.cell? ⟨wo.heap.size, p1, none⟩ = some (.slice (some ⟨g0, 0, none⟩) A A))
                (go_keep) (fail)
              have hVB : Hid ((wt.alloc (.cells #[.string v.id, .int .u64 v.w, .int .u64 v.c] 86)).heap[wt.heap.size]? = some (.cells #[.string v.id, .int .u64 v.w, .int .u64 v.c] 86 (0, 0))) := heap_alloc_new _ _
              have j0 : (0 : Int) ≤ (A : Int) := Int.natCast_nonneg _
              have j1 : (A : Int) ≤ (N1 : Int) := by omega
              have j2 : (0 : Int) ≤ (A2 : Int) := Int.natCast_nonneg _
              have j3 : (A2 : Int) ≤ (A : Int) := by omega
              have eA2 : IntKind.i64.wrap ((A : Int) - (cols : Int)) = (A2 : Int) := by have := HDA.out; rw [IntKind.wrap_i64]; omega
              go_upto_region 25 with (first | (at_make; refine wpList_make_full _ rfl _ _ 64 rfl (wt.heap.size + 1) 23 i23 (.int .u64 0) 1 Try.underlying64 hi23 hz230 hz231 .i64 .i64 _ _ N1 rfl rfl rfl rfl (by rw [hz232]; omega) (by unfold maxLen; omega) (by simp) ?_; intro w5 hown5 hgrow5; obtain ⟨Z5, hZ5⟩ : ∃ Z, Z = (madeCells (Value.cells (.int .u64 0)) (N1 * 1)).toList := ⟨_, rfl⟩; rw [← hZ5] at hown5; clear hZ5; have hb5 : Below (wt.heap.size + 1) _ w5 := grown_below hgrow5 (by simp) (by simp); have hm5 : Z5.length = N1 ∧ w5.heap[wt.heap.size + 1]? = some (.cells Z5.toArray 23 (0, 0)) := (by have := made_row hown5; simpa using this); have hv5 : w5.heap[wt.heap.size]? = some (.cells #[.string v.id, .int .u64 v.w, .int .u64 v.c] 86 (0, 0)) := (hb5.block _ (by omega)).trans hVB.out; have hb5' : Below wt.heap.size wt w5 := (((Below.refl _ _).alloc (Nat.le_refl _) _).drew).trans (hb5.mono (by omega)); obtain ⟨w6, w7, hrun6, hrun7, hr7, hb7⟩ := tbl_copies w5 (wt.heap.size + 1) (wt.heap.size + 1) g0 A A2 N1 cols (cellOf over cols (vs.drop p1)) Z5 HDA.out HD.out.2.1 (RowIs.congr HRT.out (hb5'.block _ hg0l)) hm5.2 hm5.1 (by omega) (Nat.le_refl _); have HV7 : Hid (w7.heap[wt.heap.size]? = some (.cells #[.string v.id, .int .u64 v.w, .int .u64 v.c] 86 (0, 0))) := (hb7.block _ (by omega)).trans hv5; have HB7 : Hid (Below wt.heap.size wt w7) := hb5'.trans (hb7.mono (by omega)); have HR7 : Hid (RowIs w7 (wt.heap.size + 1) (mixA (cellOf over cols (v :: vs.drop p1)) (cellOf over cols (vs.drop p1)) cols) N1) := RowIs.ext hr7 (fun x _ => (by rw [HD.out.1]; exact (rows_all (by omega) (by rw [List.length_drop, HV.out]; have := HD.out; omega) x).trans (mixA_start x))); clear hown5 hgrow5 hb5 hm5 hv5 hb5' hr7 hb7) | fail)
              go_region_held3 (fun _ => True) (exact trivial) (fail)
              clear hrun6 hrun7
              have HSTEP : Hid (∀ q j : Nat, q < cols → cellOf over cols (v :: vs.drop p1) ((j + 1) * cols + q) = min (cellOf over cols (vs.drop p1) ((j + 1) * cols + q)) (addU (cellOf over cols (vs.drop p1) (j * cols + (q - v.w))) v.c over)) := fun q j hq => cell_step hq
              have HOLE : Hid (∀ x, cellOf over cols (vs.drop p1) x ≤ over) := fun x => cellOf_le x
              have HNEW : Hid (cellOf over cols (v :: vs.drop p1) = cellOf over cols (vs.drop p)) := by
                show _ = _
                rw [drop_at HVv.out, HD.out.2.2.2.2.2.1]
              generalize cellOf over cols (v :: vs.drop p1) = NEW at *
              generalize cellOf over cols (vs.drop p1) = OLD at *
              go_wp2_with fail
              go_loopw [20] (fun kv wq => ∃ kk : Nat, 1 ≤ kk ∧ kk ≤ d1 ∧ kv = .int .i64 kk ∧ RowIs wq (wt.heap.size + 1) (mixA NEW OLD (kk * cols)) N1 ∧ wq.heap[wt.heap.size]? = some (.cells #[.string v.id, .int .u64 v.w, .int .u64 v.c] 86 (0, 0)) ∧ Below wt.heap.size wt wq) (fun kv _ => d1 - (intOf kv).toNat)
              case atStart => exact ⟨1, Nat.le_refl _, by have := HD.out; omega, by go_num, by rw [Nat.one_mul]; exact HR7.out, HV7.out, HB7.out⟩
              case round => as_aux_lemma =>
                clear HR7 HV7 HB7
                obtain ⟨kk, hk1, hk2, rfl, hrow, hvb, hbel⟩ := hrel
                have HVB : Hid (wr.heap[wt.heap.size]? = some (.cells #[.string v.id, .int .u64 v.w, .int .u64 v.c] 86 (0, 0))) := hvb
                have HBL : Hid (Below wt.heap.size wt wr) := hbel
                clear hvb hbel
                by_cases hlt : kk ≤ d
                · as_aux_lemma =>
                    obtain ⟨j, hj⟩ : ∃ j, kk = j + 1 := ⟨kk - 1, by omega⟩
                    obtain ⟨S, hS⟩ : ∃ S, S = kk * cols := ⟨_, rfl⟩
                    obtain ⟨S0, hS0⟩ : ∃ S0, S0 = j * cols := ⟨_, rfl⟩
                    have hSS : S = S0 + cols := by rw [hS, hS0, hj, Nat.add_mul, Nat.one_mul]
                    have hSA : S ≤ A := by
                      rw [hS, HD.out.1]
                      exact Nat.mul_le_mul_right _ hlt
                    have hSN : S + cols ≤ N1 := by have := HD.out; omega
                    have ej : (kk : Int) - 1 = (j : Int) := by omega
                    have eS0 : (j : Int) * (cols : Int) = (S0 : Int) := by rw [hS0]; push_cast; rfl
                    have eS : (kk : Int) * (cols : Int) = (S : Int) := by rw [hS]; push_cast; rfl
                    have HS : Hid (S = kk * cols ∧ S0 = j * cols ∧ kk = j + 1 ∧ S = S0 + cols) := ⟨hS, hS0, hj, hSS⟩
                    have HRW : Hid (RowIs wr (wt.heap.size + 1) (mixA NEW OLD S) N1) := by rw [hS]; exact hrow
                    have hS0A : S0 + cols ≤ A := by omega
                    have hS0m : S0 ≤ 4194304 := by omega
                    have hSm : S ≤ 4194304 := by omega
                    clear hj hS hS0 hSS hrow
                    obtain ⟨wi, rfl⟩ : ∃ x : World, x = wr := ⟨_, rfl⟩
                    go_wp2_with fail
                    go_loopw [142] (fun qv wq => ∃ q : Nat, q ≤ cols ∧ qv = .int .i64 q ∧ RowIs wq (wt.heap.size + 1) (mixA NEW OLD (S + q)) N1 ∧ wq.heap[wt.heap.size]? = some (.cells #[.string v.id, .int .u64 v.w, .int .u64 v.c] 86 (0, 0)) ∧ Below wt.heap.size wt wq) (fun qv _ => cols - (intOf qv).toNat)
                    case atStart => exact ⟨0, Nat.zero_le _, by go_num, HRW.out, HVB.out, HBL.out⟩
                    case round => as_aux_lemma =>
                      clear HRW HVB HBL
                      obtain ⟨q, hq, rfl, hrow, hvb, hbel⟩ := hrel
                      by_cases hq0 : q < cols
                      · as_aux_lemma =>
                          obtain ⟨_, e1, e2⟩ := at_three hvb
                          obtain ⟨P, hP⟩ : ∃ P, P = S + q := ⟨_, rfl⟩
                          obtain ⟨R, hR⟩ : ∃ R, R = S0 + (q - v.w) := ⟨_, rfl⟩
                          have eP : (S : Int) + (q : Int) = (P : Int) := by omega
                          have eR : (S0 : Int) + ((q - v.w : Nat) : Int) = (R : Int) := by omega
                          obtain ⟨c1, fz⟩ := hrow.cell (j := P) (by omega)
                          have m1 : mixA NEW OLD (S + q) P = OLD P := by unfold mixA; rw [if_neg (by omega)]
                          rw [m1] at c1
                          obtain ⟨c2, _⟩ := (HRT.out.congr (hbel.block _ hg0l)).cell (j := R) (by omega)
                          have HNP : Hid (NEW P = min (OLD P) (addU (OLD R) v.c over)) := by
                            have := HSTEP.out q j hq0
                            rw [← HS.out.2.2.1, ← HS.out.1, ← HS.out.2.1, ← hP, ← hR] at this
                            exact this
                          have hx2 := HOLE.out R
                          have hx1 := HOLE.out P
                          have HPP : Hid (P = S + q) := hP
                          generalize OLD P = x1 at *
                          generalize OLD R = x2 at *
                          have hPm : P ≤ 4194304 := by omega
                          have hRm : R ≤ 4194304 := by omega
                          have i0 : (0 : Int) ≤ (P : Int) := Int.natCast_nonneg _
                          have i1 : (P : Int) < (N1 : Int) := by omega
                          have i2 : (0 : Int) ≤ (R : Int) := Int.natCast_nonneg _
                          have i3 : (R : Int) < (A : Int) := by omega
                          have HRW : Hid (RowIs wr (wt.heap.size + 1) (mixA NEW OLD (S + q)) N1) := hrow
                          have HVB : Hid (wr.heap[wt.heap.size]? = some (.cells #[.string v.id, .int .u64 v.w, .int .u64 v.c] 86 (0, 0))) := hvb
                          clear hrow hvb hP hR m1
                          go_wp2_with fail
                          go_quiet (first | (go_at_call 48; refine Calls.quiet_of_same ((below48 _ _ (by unfold U; omega) (by assumption) _).mono (fun _ _ h => ⟨h.1, h.2.symm⟩))) | (go_at_call 44; refine Calls.quiet_of_same ((add44 _ _ _ (by assumption) (by assumption) (by assumption) _).mono (fun _ _ h => ⟨h.1, h.2.symm⟩))))
                          go_wp2
                          go_roundw
                          case rel =>
                            have e : (if addU x2 v.c over < x1 then ((addU x2 v.c over : Nat) : Int) else ((x1 : Nat) : Int)) = ((min x1 (addU x2 v.c over) : Nat) : Int) := by split <;> omega
                            rw [e]
                            refine ⟨q + 1, by omega, by go_num, ?_, ?_, ?_⟩
                            · have h1 : RowIs (wr.drewN nq) (wt.heap.size + 1) (mixA NEW OLD P) N1 := by rw [HPP.out]; exact RowIs.congr HRW.out rfl
                              have h2 := mixA_set h1 HNP.out
                              rw [show S + (q + 1) = P + 1 by have := HPP.out; omega]
                              exact h2
                            · show ((wr.drewN nq).setCell _ _).heap[wt.heap.size]? = _
                              rw [Below.heap_setCell _ _ _ _ (by simp)]
                              exact HVB.out
                            · exact below_setCell (hbel.trans ((qmS.below_drewN wr nq).mono hbel.size)) (by simp) _
                          case measure => simp [intOf]; omega
                      · obtain rfl : q = cols := by omega
                        go_wp2
                        go_roundw
                        case rel => exact ⟨kk + 1, by omega, by have := HD.out; omega, by go_num, by rw [Nat.add_mul, Nat.one_mul, ← HS.out.1]; exact hrow, hvb, hbel⟩
                        case measure => simp [intOf]; have := HD.out; omega
                · as_aux_lemma =>
                    obtain rfl : kk = d1 := by have := HD.out; omega
                    have hrn : RowIs wr (wt.heap.size + 1) NEW N1 := hrow.ext (fun j hj => by
                      unfold mixA
                      rw [if_pos (by rw [← HD.out.2.2.1]; exact hj)])
                    rw [HNEW.out] at hrn
                    have hTw := HT.out.below HBL.out
                    obtain ⟨z, hz⟩ : ∃ z, L[p]? = some z := ⟨_, List.getElem?_eq_getElem (by rw [hTw.len]; omega)⟩
                    obtain ⟨cz, fzz⟩ := hTw.lst.cell hz
                    have hNk : (k - p + 1) * cols = N1 := by have := HD.out; rw [this.2.2.1, this.2.2.2.2.1, this.2.2.2.1]
                    have hsw := HBE.out.size
                    have hTn := Tbl.step hTw (by omega) (g := wt.heap.size + 1) (by omega) (by rw [hNk]; exact hrn)
                    rw [hNk] at hTn
                    have HTN : Hid (Tbl (wr.setCell ⟨wo.heap.size, p, none⟩ (.slice (some ⟨wt.heap.size + 1, 0, none⟩) N1 N1)) w.heap.size wo.heap.size k cols over vs p (fun j => if j = p then wt.heap.size + 1 else T j) (L.set p (.slice (some ⟨wt.heap.size + 1, 0, none⟩) N1 N1))) := hTn
                    have HBN : Hid (Below w.heap.size w (wr.setCell ⟨wo.heap.size, p, none⟩ (.slice (some ⟨wt.heap.size + 1, 0, none⟩) N1 N1))) := below_setCell (HBE.out.trans (HBL.out.mono hsw)) (by show w.heap.size ≤ wo.heap.size; omega) _
                    have i4 : (p : Int) < (K1 : Int) := by omega
                    clear hrow hrn hTw hz hTn hNk
                    go_wp2
                    go_roundw
                    case rel => exact ⟨p, _, _, by omega, by go_num, HTN.out, HBN.out⟩
                    case measure => simp [intOf]
          · as_aux_lemma =>
              obtain rfl : i = 0 := by omega
              have hat := hT.at_ 0 (Nat.le_refl _) (Nat.zero_le _)
              have hr0 := hT.row 0 (Nat.le_refl _) (Nat.zero_le _)
              rw [List.drop_zero, Nat.sub_zero] at hr0
              rw [Nat.sub_zero] at hat
              obtain ⟨M, hM⟩ : ∃ M, M = (k + 1) * cols := ⟨_, rfl⟩
              rw [← hM] at hat hr0
              have hMm : M ≤ 4194304 := by rw [hM, HCO.out]; exact HW.out
              obtain ⟨cL, fL⟩ := hT.lst.cell hat
              have HT : Hid (Tbl wt w.heap.size wo.heap.size k cols over vs 0 T L) := hT
              have HBE : Hid (Below w.heap.size w wt) := hbel
              have HR0 : Hid (RowIs wt (T 0) (cellOf over cols vs) M) := hr0
              have HM : Hid (M = (k + 1) * cols) := hM
              obtain ⟨t0, ht0⟩ : ∃ t0, t0 = T 0 := ⟨_, rfl⟩
              rw [← ht0] at HR0 cL
              have hsw := hbel.size
              clear hT hbel hr0 hM hat ht0
              have iK : (0 : Int) < (K1 : Int) := by omega
              go_wp2_with fail
              go_loopw [23] (fun sv wq => ∃ sz : Nat, sz ≤ k ∧ sv = .int .i64 sz ∧ (∀ j, j < sz → bud < Lc over vs j thr) ∧ wt = wq) (fun sv _ => k - (intOf sv).toNat)
              case atStart => exact ⟨0, Nat.zero_le _, by go_num, fun j hj => absurd hj (by omega), rfl⟩
              case round => as_aux_lemma =>
                obtain ⟨sz, hsz0, rfl, hno, rfl⟩ := hrel
                obtain ⟨S, hS⟩ : ∃ S, S = sz * cols := ⟨_, rfl⟩
                obtain ⟨S1, hS1⟩ : ∃ S1, S1 = S + cols := ⟨_, rfl⟩
                obtain ⟨P, hP⟩ : ∃ P, P = S + thr := ⟨_, rfl⟩
                have hSM : S + cols ≤ M := by
                  rw [HM.out, hS]
                  have := Nat.mul_le_mul_right cols (show sz + 1 ≤ k + 1 by omega)
                  rw [Nat.add_mul, Nat.one_mul] at this
                  exact this
                have hcc := HCO.out
                have eS : (sz : Int) * (cols : Int) = (S : Int) := by rw [hS]; push_cast; rfl
                have eS1 : (S : Int) + (cols : Int) = (S1 : Int) := by omega
                have eP : (S1 : Int) - 1 = (P : Int) := by omega
                obtain ⟨c1, _⟩ := RowIs.cell HR0.out (j := P) (by omega)
                rw [hP, hS, cellOf_at _ hct, ← hS, ← hP] at c1
                have hfe2 : sz = k → Lc over vs sz thr ≤ bud := fun e => by
                  have := Lc_feas hbo m0 HF.out
                  rw [HV.out] at this
                  rw [e]; exact this
                have i0 : (0 : Int) ≤ (P : Int) := Int.natCast_nonneg _
                have i1 : (P : Int) < (M : Int) := by omega
                have hPm : P ≤ 4194304 := by omega
                have hSm : S ≤ 4194304 := by omega
                have hS1m : S1 ≤ 4194304 := by omega
                have HNO : Hid (∀ j, j < sz → bud < Lc over vs j thr) := hno
                have HX : Hid (Lc over vs sz thr = Lc over vs sz thr) := rfl
                have hxo := Lc_le_over over vs sz thr
                generalize hx : Lc over vs sz thr = x at c1 hfe2 hxo
                have HXX : Hid (Lc over vs sz thr = x) := hx
                clear hx hno HX hcc hS hS1 hP
                by_cases hbx : bud < x
                · as_aux_lemma =>
                    have hszk : sz < k := by
                      rcases Nat.lt_or_ge sz k with h | h
                      · exact h
                      · have := hfe2 (by omega); omega
                    clear hfe2
                    go_wp2
                    go_roundw
                    case rel => exact ⟨sz + 1, by omega, by go_num, fun j hj => (by
                      rcases Nat.lt_or_ge j sz with h | h
                      · exact HNO.out j h
                      · rw [show j = sz by omega, HXX.out]; exact hbx), trivial⟩
                    case measure => simp [intOf]; omega
                · as_aux_lemma =>
                    clear hfe2
                    have HLE : Hid (Lc over vs sz thr ≤ bud) := by show _ ≤ _; rw [HXX.out]; omega
                    have HPK : Hid (Pk over vs sz thr bud 0 sz thr bud []) := Pk.start hbo HLE.out HNO.out
                    clear HXX
                    go_wp2_with (first | (at_make; refine wpList_make_own _ rfl _ _ 30 rfl wt.heap.size 9 i9 (.string ⟨#[]⟩) 1 Try.underlying30 hi9 hz90 hz91 .i64 .i64 _ sz rfl rfl rfl (by rw [hz92]; omega) (by unfold maxLen; omega) (Nat.le_refl _) ?_; intro w8 hown8 hgrow8) | fail)
                    have HB8 : Hid (Below wt.heap.size wt w8) := grown_below hgrow8 (Nat.le_refl _) (by simp)
                    have HO8 : Hid (w8.ownsRow wt.heap.size 9 1 (.slice (some ⟨wt.heap.size, 0, none⟩) 0 sz) 0 []) := hown8
                    clear hown8 hgrow8
                    go_loopw [24, 25, 26, 27] (fun qv wv lv iv wq => ∃ (i r wd lf : Nat) (m : List Bool), Pk over vs sz thr bud i r wd lf m ∧ wv = .int .u64 wd ∧ lv = .int .u64 lf ∧ iv = .int .i64 i ∧ wq.ownsRow wt.heap.size 9 1 qv (sel (vs.take i) m).length (idCells (sel (vs.take i) m)) ∧ Below wt.heap.size wt wq) (fun _ _ _ iv _ => k - (intOf iv).toNat)
                    case atStart => exact ⟨0, sz, thr, bud, [], HPK.out, rfl, rfl, by go_num, HO8.out, HB8.out⟩
                    case round => as_aux_lemma =>
                      clear HB8 HO8 HPK
                      obtain ⟨i, r, wd, lf, m, hpk, rfl, rfl, rfl, hown, hbel⟩ := hrel
                      obtain ⟨ao, cp, rfl⟩ := own_form hown
                      have hcount := hpk.count
                      have hroom := hpk.room
                      rw [HV.out] at hroom
                      have hwd := hpk.hw
                      have hlf := hpk.hl
                      have hile := hpk.le
                      rw [HV.out] at hile
                      have HPK : Hid (Pk over vs sz thr bud i r wd lf m) := hpk
                      have HBE2 : Hid (Below w.heap.size w wr) := HBE.out.trans (hbel.mono hsw)
                      obtain ⟨n0, hn0⟩ : ∃ n0, n0 = (sel (vs.take i) m).length := ⟨_, rfl⟩
                      rw [← hn0] at hown hcount ⊢
                      have HN0 : Hid (n0 = (sel (vs.take i) m).length) := hn0
                      clear hn0 hpk
                      rcases r with _ | r
                      · go_wp2
                        go_ret
                        refine ⟨_, pickM over vs sz thr bud, rfl, (pick_first hbo HLE.out HNO.out).1, ?_, HBE2.out⟩
                        rw [HPK.out.done, ← HN0.out]
                        exact own_less hown hsw
                      · as_aux_lemma =>
                          obtain ⟨v, hv⟩ : ∃ v, vs[i]? = some v := ⟨_, List.getElem?_eq_getElem (by rw [HV.out]; omega)⟩
                          obtain ⟨d0, d1, d2⟩ := (HC.out i v hv).below HBE2.out hb
                          obtain ⟨p0, p1, p2⟩ := HP.out v (List.mem_of_getElem? hv)
                          obtain ⟨i1, hi1⟩ : ∃ i1, i1 = i + 1 := ⟨_, rfl⟩
                          have hT2 := HT.out.below hbel
                          have hat := hT2.at_ i1 (Nat.zero_le _) (by omega)
                          have hrT := hT2.row i1 (Nat.zero_le _) (by omega)
                          obtain ⟨g0, hg0⟩ : ∃ g0, g0 = T i1 := ⟨_, rfl⟩
                          obtain ⟨A, hA⟩ : ∃ A, A = (k - i1 + 1) * cols := ⟨_, rfl⟩
                          rw [← hg0, ← hA] at hat hrT
                          obtain ⟨cT, _⟩ := hT2.lst.cell hat
                          obtain ⟨S, hS⟩ : ∃ S, S = r * cols := ⟨_, rfl⟩
                          obtain ⟨R, hR⟩ : ∃ R, R = S + (wd - v.w) := ⟨_, rfl⟩
                          have hcc := HCO.out
                          have hSA : S + cols ≤ A := by
                            rw [hA, hS]
                            have := Nat.mul_le_mul_right cols (show r + 1 ≤ k - i1 + 1 by omega)
                            rw [Nat.add_mul, Nat.one_mul] at this
                            exact this
                          have hAm : A ≤ 4194304 := by
                            rw [hA, HCO.out]
                            exact Nat.le_trans (Nat.mul_le_mul_right _ (by omega)) HW.out
                          obtain ⟨cR, _⟩ := hrT.cell (j := R) (by omega)
                          rw [hR, hS, cellOf_at _ (by omega), ← hS, ← hR, hi1] at cR
                          have er : (sz : Int) - (n0 : Int) - 1 = (r : Int) := by omega
                          have him : i ≤ 256 := by omega
                          have ewi : IntKind.i64.wrap ((i : Int) + 1) = (i : Int) + 1 := by rw [IntKind.wrap_i64]; omega
                          have y2 : (0 : Int) ≤ (i : Int) + 1 := by omega
                          have y3 : (i : Int) + 1 < (K1 : Int) := by omega
                          rw [hi1] at cT
                          have eS : (r : Int) * (cols : Int) = (S : Int) := by rw [hS]; push_cast; rfl
                          have eR : (S : Int) + ((wd - v.w : Nat) : Int) = (R : Int) := by omega
                          have x0 : (0 : Int) ≤ (i : Int) := Int.natCast_nonneg _
                          have x1 : (i : Int) < (k : Int) := by omega
                          have x2 : (0 : Int) ≤ (i1 : Int) := Int.natCast_nonneg _
                          have x3 : (i1 : Int) < (K1 : Int) := by omega
                          have hi1m : i1 ≤ 257 := by omega
                          have x4 : (0 : Int) ≤ (R : Int) := Int.natCast_nonneg _
                          have x5 : (R : Int) < (A : Int) := by omega
                          have hSm : S ≤ 4194304 := by omega
                          have hRm : R ≤ 4194304 := by omega
                          have hxo := Lc_le_over over (vs.drop (i + 1)) r (wd - v.w)
                          have HVv : Hid (vs[i]? = some v) := hv
                          generalize hx : Lc over (vs.drop (i + 1)) r (wd - v.w) = x at cR hxo
                          have HXX : Hid (Lc over (vs.drop (i + 1)) r (wd - v.w) = x) := hx
                          have HI1 : Hid (i1 = i + 1) := hi1
                          clear hx hv hi1 hT2 hat hrT hA hS hR hcc hg0
                          have hne := own_ne hown
                          go_wp2_with fail
                          obtain ⟨W, hW⟩ : ∃ W, W = wr.alloc (.cells #[.string v.id, .int .u64 v.w, .int .u64 v.c] 86) := ⟨_, rfl⟩
                          rw [← hW]
                          have hbW : Below wr.heap.size wr W := by rw [hW]; exact (Below.refl _ _).alloc (Nat.le_refl _) _
                          have HWV : Hid (W.heap[wr.heap.size]? = some (.cells #[.string v.id, .int .u64 v.w, .int .u64 v.c] 86 (0, 0))) := by rw [hW]; exact heap_alloc_new _ _
                          obtain ⟨k0, k1, k2⟩ := at_three HWV.out
                          have cT2 := (hbW.cell (World.block_lt_of_cell? wr _ cT)).trans cT
                          have cR2 := (hbW.cell (World.block_lt_of_cell? wr _ cR)).trans cR
                          have HWO : Hid (W.ownsRow wt.heap.size 9 1 (.slice ao n0 cp) n0 (idCells (sel (vs.take i) m))) := by rw [hW]; exact own_alloc hown _
                          have HWB : Hid (Below wt.heap.size wt W) := hbel.trans (hbW.mono hbel.size)
                          have hWs : wr.heap.size < W.heap.size := lt_of_some HWV.out
                          clear hW hbW cT cR hown hbel d0 d1 d2
                          by_cases hcl : v.c ≤ lf
                          · as_aux_lemma =>
                              by_cases hxl : x ≤ lf - v.c
                              · as_aux_lemma =>
                                  have hxl' : (x : Int) ≤ (lf : Int) - (v.c : Int) := by omega
                                  go_quiet (first | (go_at_call 48; refine Calls.quiet_of_same ((below48 _ _ (by unfold U; omega) (by assumption) _).mono (fun _ _ h => ⟨h.1, h.2.symm⟩))))
                                  go_wp2_with (first | (at_builtin; refine wpList_append_lies _ rfl (.tmp 248) (.tmp 251) 30 rfl wt.heap.size 9 i9 (.string ⟨#[]⟩) 1 16 Try.underlying30 hi9 hz90 hz91 hz92 rfl (by decide) (.slice ao n0 cp) n0 (idCells (sel (vs.take i) m)) rfl (own_alloc (own_drewN HWO.out _) _) ⟨W.heap.size, 0, none⟩ 1 1 [.string v.id] rfl rfl (World.news_of_block (cs := #[.string v.id]) (t := 9) (fr := (0, 0)) (heap_alloc_new (W.drewN nq) _)) (by simp [Value.oneCell']) (by omega) (by unfold maxLen; omega) (by omega) (by simp; have := HWB.out.size; omega) (W.heap.size + 1) (by simp) ?_; intro g2 cap2 w9 hown9 hgrow9 hat9 hlt9) | fail)
                                  have hv9 : w9.heap[wr.heap.size]? = some (.cells #[.string v.id, .int .u64 v.w, .int .u64 v.c] 86 (0, 0)) := (hgrow9.block _ (Nat.lt_of_lt_of_le hWs ((Below.refl _ (W.drewN nq)).alloc (Nat.le_refl _) _).size) hne.symm).trans ((Below.heap_alloc _ _ _ (by exact hWs)).trans HWV.out)
                                  obtain ⟨_, k1, k2⟩ := at_three hv9
                                  have HB9 : Hid (Below wt.heap.size wt w9) := ((HWB.out.trans ((qmS.below_drewN _ nq).mono HWB.out.size)).alloc (by exact HWB.out.size) _).trans (grown_below hgrow9 (by simp; have := HWB.out.size; omega) (own_ge HWO.out))
                                  have HO9 : Hid (w9.ownsRow wt.heap.size 9 1 (.slice (some ⟨g2, 0, none⟩) (n0 + 1) cap2) (n0 + 1) (idCells (sel (vs.take i) m) ++ [.string v.id])) := hown9
                                  clear hgrow9 hat9 hlt9 hown9 hv9
                                  go_quiet (first | (go_at_call 48; refine Calls.quiet_of_same ((below48 _ _ (by unfold U; omega) (by assumption) _).mono (fun _ _ h => ⟨h.1, h.2.symm⟩))))
                                  go_wp2
                                  go_roundw
                                  case rel =>
                                    refine ⟨i + 1, r, wd - v.w, lf - v.c, m ++ [true], HPK.out.take hbo HVv.out hcl (by rw [HXX.out]; exact hxl), by go_num, by go_num, by go_num, ?_, ?_⟩
                                    · rw [sel_true HPK.out.len HVv.out, List.length_append, ← HN0.out]
                                      have := HO9.out
                                      simpa [idCells] using own_drewN this _
                                    · exact HB9.out.trans ((qmS.below_drewN _ _).mono HB9.out.size)
                                  case measure => simp [intOf]; omega
                              · as_aux_lemma =>
                                  have hxl' : decide ((x : Int) ≤ (lf : Int) - (v.c : Int)) = false := decide_eq_false (by omega)
                                  go_quiet (first | (go_at_call 48; refine Calls.quiet_of_same ((below48 _ _ (by unfold U; omega) (by assumption) _).mono (fun _ _ h => ⟨h.1, h.2.symm⟩))))
                                  go_wp2
                                  go_roundw
                                  case rel =>
                                    refine ⟨i + 1, r + 1, wd, lf, m ++ [false], HPK.out.skip hbo HVv.out (by rw [HXX.out]; omega), rfl, rfl, by go_num, ?_, ?_⟩
                                    · rw [sel_false HPK.out.len HVv.out, ← HN0.out]
                                      exact own_drewN HWO.out _
                                    · exact HWB.out.trans ((qmS.below_drewN _ nq).mono HWB.out.size)
                                  case measure => simp [intOf]; omega
                          · as_aux_lemma =>
                              have hcl' : decide ((v.c : Int) ≤ (lf : Int)) = false := decide_eq_false (by omega)
                              go_quiet (fail)
                              go_wp2
                              go_roundw
                              case rel =>
                                refine ⟨i + 1, r + 1, wd, lf, m ++ [false], HPK.out.skip hbo HVv.out (by rw [HXX.out]; omega), rfl, rfl, by go_num, ?_, ?_⟩
                                · rw [sel_false HPK.out.len HVv.out, ← HN0.out]
                                  exact own_drewN HWO.out _
                                · exact HWB.out.trans ((qmS.below_drewN _ nq).mono HWB.out.size)
                              case measure => simp [intOf]; omega
end Go.Proofs.Qxb6608623a.qmA
