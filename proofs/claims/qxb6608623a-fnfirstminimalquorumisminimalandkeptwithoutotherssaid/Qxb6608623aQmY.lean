/- THE WALKS of ZZfirstMinimalQuorum and quorumOf. -/
import Derived.Test.Qxb6608623aQmQ
import Derived.Test.Qxb6608623aQmX
namespace Go.Proofs.Qxb6608623a.qmY
open Go.RowKit
open Go.Proofs.Qxb6608623a.Qm
open Go.Proofs.Qxb6608623a.qmW
open Go.Proofs.Qxb6608623a.qmS
open Go.Proofs.Qxb6608623a.qmI
open Go.Proofs.Qxb6608623a.qmR
open Go.Proofs.Qxb6608623a.qmL
open Go.Proofs.Qxb6608623a.qmV
open Go.Proofs.Qxb6608623a.qmX
open Go.Proofs.Qxb6608623a.qmQ
set_option linter.unusedVariables false
set_option linter.unusedSimpArgs false
attribute [local go_sem ↓] Go.wp_at_zero Go.wp_at_succ

theorem made_row3 {w1 : World} {B e n g : Nat} {Z : List Value} (h : w1.ownsRow B e 3 (.slice (some ⟨g, 0, none⟩) n n) n Z) : Z.length = n * 3 ∧ w1.heap[g]? = some (.cells Z.toArray e (0, 0)) := by
  obtain ⟨hl, ⟨h, _⟩ | ⟨g', cp, cur, h, _, hh, hle, _, hsz, ht⟩⟩ := h
  · simp at h
  · simp only [Value.slice.injEq, Option.some.injEq, Addr.mk.injEq] at h
    obtain ⟨⟨rfl, _⟩, _, rfl⟩ := h
    refine ⟨by simpa using hl, ?_⟩
    rw [hh, ← ht, List.take_of_length_le (by simp [hsz])]
/-- a row of voters, filled up to voter i -/
def VFil (w : World) (g : Nat) (vs : List Vt) (i n : Nat) : Prop := ∃ Z : List Value, w.heap[g]? = some (.cells Z.toArray 86 (0, 0)) ∧ Z.length = n * 3 ∧ ∀ j v, j < i → vs[j]? = some v → Z[j * 3]? = some (.string v.id) ∧ Z[j * 3 + 1]? = some (.int .u64 (v.w : Nat)) ∧ Z[j * 3 + 2]? = some (.int .u64 (v.c : Nat))
theorem VFil.cell {w : World} {g i n q : Nat} {vs : List Vt} (h : VFil w g vs i n) (hq : q < n * 3) : ∃ z, w.cell? ⟨g, q, none⟩ = some z ∧ w.frozen? ⟨g, q, none⟩ = false := by
  obtain ⟨Z, h1, h2, h3⟩ := h
  exact ⟨Z[q], CellsAre.cell (t := 86) (L := Z) h1 (List.getElem?_eq_getElem (by omega))⟩
theorem VFil.at_ {w : World} {g n : Nat} {vs : List Vt} (h : VFil w g vs n n) (hn : vs.length = n) : ∀ i v, vs[i]? = some v → VtAt w g 0 i v := by
  intro i v hi
  obtain ⟨Z, h1, h2, h3⟩ := h
  obtain ⟨a, b, c⟩ := h3 i v (by rw [← hn]; exact (List.getElem?_eq_some_iff.1 hi).1) hi
  unfold VtAt
  simp only [Nat.zero_add]
  exact ⟨(CellsAre.cell (t := 86) (L := Z) h1 a).1, (CellsAre.cell (t := 86) (L := Z) h1 b).1, (CellsAre.cell (t := 86) (L := Z) h1 c).1⟩
theorem VFil.set {w : World} {g i n : Nat} {vs : List Vt} {v : Vt} (h : VFil w g vs i n) (hi : i < n) (hv : vs[i]? = some v) :
    VFil (((w.setCell ⟨g, i * 3, none⟩ (.string v.id)).setCell ⟨g, i * 3 + 1, none⟩ (.int .u64 (v.w : Nat))).setCell ⟨g, i * 3 + 2, none⟩ (.int .u64 (v.c : Nat))) g vs (i + 1) n := by
  obtain ⟨Z, h1, h2, h3⟩ := h
  refine ⟨((Z.set (i * 3) (.string v.id)).set (i * 3 + 1) (.int .u64 (v.w : Nat))).set (i * 3 + 2) (.int .u64 (v.c : Nat)), CellsAre.set (t := 86) (CellsAre.set (t := 86) (CellsAre.set (t := 86) (L := Z) h1 _ _) _ _) _ _, by simpa using h2, fun j u hj hu => ?_⟩
  by_cases e : j = i
  · subst e
    rw [hv] at hu
    cases hu
    refine ⟨?_, ?_, ?_⟩
    · rw [List.getElem?_set_ne (by omega), List.getElem?_set_ne (by omega), List.getElem?_set_self (by omega)]
    · rw [List.getElem?_set_ne (by omega), List.getElem?_set_self (by simp; omega)]
    · rw [List.getElem?_set_self (by simp; omega)]
  · obtain ⟨a, b, c⟩ := h3 j u (by omega) hu
    refine ⟨?_, ?_, ?_⟩
    · rw [List.getElem?_set_ne (by omega), List.getElem?_set_ne (by omega), List.getElem?_set_ne (by omega)]; exact a
    · rw [List.getElem?_set_ne (by omega), List.getElem?_set_ne (by omega), List.getElem?_set_ne (by omega)]; exact b
    · rw [List.getElem?_set_ne (by omega), List.getElem?_set_ne (by omega), List.getElem?_set_ne (by omega)]; exact c

set_option maxRecDepth 100000 in
set_option maxHeartbeats 4000000 in
theorem zz25 (gi gw gc n thr bud : Nat) (vs : List Vt) (hvs : vs.length = n) (hn : n ≤ 256) (ht1 : 1 ≤ thr) (hwork : (n + 1) * (n + 1) * (thr + 1) ≤ 4194304) (hbud : bud < 18446744073709551615)
    (hpos : ∀ v ∈ vs, U v.w ∧ U v.c) (m0 : List Bool) (hfeas : Feas vs thr bud m0) (w : World) (h1 : Fil w gi 9 (fI vs) n n) (h2 : Fil w gw 23 (fW vs) n n) (h3 : Fil w gc 23 (fC vs) n n) :
    Calls Try.prog 25 #[.slice (some ⟨gi, 0, none⟩) n n, .slice (some ⟨gw, 0, none⟩) n n, .slice (some ⟨gc, 0, none⟩) n n, .int .u64 thr, .int .u64 bud] w
      fun e w' => ∃ r m, e = .returned r ∧ IsFirst vs thr bud m ∧ w'.ownsRow w.heap.size 9 1 r (sel vs m).length (idCells (sel vs m)) ∧ Below w.heap.size w w' := by
  obtain ⟨i86, hi86, hz860, hz861, hz862⟩ := info_parts info86
  have HV : Hid (vs.length = n) := hvs
  have HP : Hid (∀ v ∈ vs, U v.w ∧ U v.c) := hpos
  have HF : Hid (Feas vs thr bud m0) := hfeas
  have HW : Hid ((n + 1) * (n + 1) * (thr + 1) ≤ 4194304) := hwork
  have F1 : Hid (Fil w gi 9 (fI vs) n n) := h1
  have F2 : Hid (Fil w gw 23 (fW vs) n n) := h2
  have F3 : Hid (Fil w gc 23 (fC vs) n n) := h3
  have l1 := h1.lt
  have l2 := h2.lt
  have l3 := h3.lt
  clear hvs hpos hfeas hwork h1 h2 h3
  go_enter Try.func25, Try.ntmps25
  go_wp2_with (first | (at_make; refine wpList_make_full _ rfl _ _ 84 rfl w.heap.size 86 i86 (.agg #[.string ⟨#[]⟩, .int .u64 0, .int .u64 0]) 3 Try.underlying84 hi86 hz860 hz861 .i64 .i64 _ _ n rfl rfl rfl rfl (by rw [hz862]; omega) (by unfold maxLen; omega) (Nat.le_refl _) ?_; intro w1 hown1 hgrow1) | fail)
  obtain ⟨q1, q2⟩ := made_row3 hown1
  have HM : Hid (VFil w1 w.heap.size vs 0 n) := ⟨_, q2, q1, fun j v h => absurd h (by omega)⟩
  have HB1 : Hid (Below w.heap.size w w1) := grown_below hgrow1 (Nat.le_refl _) (by simp)
  clear hown1 hgrow1 q1 q2
  go_loopw [18] (fun iv wq => ∃ i : Nat, i ≤ n ∧ iv = .int .i64 i ∧ VFil wq w.heap.size vs i n ∧ Below w.heap.size w wq) (fun iv _ => n - (intOf iv).toNat)
  case atStart => exact ⟨0, Nat.zero_le _, by go_num, HM.out, HB1.out⟩
  case round =>
    clear HM HB1
    obtain ⟨i, hi, rfl, hvf, hbel⟩ := hrel
    by_cases hlt : i < n
    · obtain ⟨v, hv⟩ : ∃ v, vs[i]? = some v := ⟨_, List.getElem?_eq_getElem (by rw [HV.out]; exact hlt)⟩
      obtain ⟨e1, e2, e3⟩ := f_at hv
      have c1 := (hbel.cell (show (⟨gi, i, none⟩ : Addr).block < w.heap.size from l1)).trans (F1.out.get hlt)
      have c2 := (hbel.cell (show (⟨gw, i, none⟩ : Addr).block < w.heap.size from l2)).trans (F2.out.get hlt)
      have c3 := (hbel.cell (show (⟨gc, i, none⟩ : Addr).block < w.heap.size from l3)).trans (F3.out.get hlt)
      rw [e1] at c1
      rw [e2] at c2
      rw [e3] at c3
      obtain ⟨z0, a0, f0⟩ := hvf.cell (q := i * 3) (by omega)
      obtain ⟨z1, a1, f1⟩ := hvf.cell (q := i * 3 + 1) (by omega)
      obtain ⟨z2, a2, f2⟩ := hvf.cell (q := i * 3 + 2) (by omega)
      have HVF : Hid (VFil wr w.heap.size vs i n) := hvf
      have HVv : Hid (vs[i]? = some v) := hv
      have i0 : (0 : Int) ≤ (i : Int) := Int.natCast_nonneg _
      have i1 : (i : Int) < (n : Int) := by omega
      have n1 : w.heap.size ≠ gi := by omega
      have n2 : w.heap.size ≠ gw := by omega
      have n3 : w.heap.size ≠ gc := by omega
      clear hv hvf e1 e2 e3
      go_wp2_with fail
      go_region_held3 (fun w' => w'.cell? ⟨gi, i, none⟩ = some (.string v.id) ∧ w'.cell? ⟨gw, i, none⟩ = some (.int .u64 (v.w : Nat)) ∧ w'.cell? ⟨gc, i, none⟩ = some (.int .u64 (v.c : Nat)))
        (go_keep) (fail)
      go_wp2
      go_roundw
      case rel =>
        refine ⟨i + 1, by omega, by go_num, ?_, ?_⟩
        · exact VFil.set (w := wr.drew) HVF.out hlt HVv.out
        · exact below_setCell (below_setCell (below_setCell hbel.drew (Nat.le_refl _) _) (Nat.le_refl _) _) (Nat.le_refl _) _
      case measure => simp [intOf]; omega
    · obtain rfl : i = n := by omega
      have hgl : w.heap.size < wr.heap.size := by
        obtain ⟨Z, hz, _⟩ := hvf
        exact lt_of_some hz
      have hat := hvf.at_ HV.out
      have HAT : Hid (∀ i v, vs[i]? = some v → VtAt wr w.heap.size 0 i v) := hat
      clear hvf hat
      go_wp2_with (first | (go_at_call 41; refine (min41 w.heap.size 0 i i thr bud vs HV.out hn ht1 HW.out hbud HP.out m0 HF.out wr hgl HAT.out).mono ?_; rintro e w6 ⟨r6, m6, rfl, hfi, hown6, hb6⟩) | fail)
      go_ret
      exact ⟨_, m6, rfl, hfi, own_less hown6 hbel.size, hbel.trans (hb6.mono hbel.size)⟩

set_option maxRecDepth 100000 in
set_option maxHeartbeats 1000000 in
theorem quorum11 (a : Option Addr) (n cap thr bud : Nat) (vs : List Vt) (hvs : vs.length = n) (hn : n ≤ 256) (ht1 : 1 ≤ thr) (hwork : (n + 1) * (n + 1) * (thr + 1) ≤ 4194304) (hbud : bud < 18446744073709551615)
    (hpos : ∀ v ∈ vs, U v.w ∧ U v.c) (m0 : List Bool) (hfeas : Feas vs thr bud m0) (w : World) (hV : Vs w a vs) :
    Calls Try.prog 11 #[.slice a n cap, .int .u64 thr, .int .u64 bud] w
      fun e w' => ∃ r m, e = .returned r ∧ IsFirst vs thr bud m ∧ w'.ownsRow w.heap.size 9 1 r (sel vs m).length (idCells (sel vs m)) ∧ Below w.heap.size w w' := by
  go_enter Try.func11, Try.ntmps11
  go_wp2_with (first | (go_at_call 24; refine (split24 a n cap vs hvs hn w hV).mono ?_; rintro e w1 ⟨gi, gw, gc, rfl, h1, h2, h3, hb1⟩) | (go_at_call 25; refine (zz25 gi gw gc n thr bud vs hvs hn ht1 hwork hbud hpos m0 hfeas w1 h1 h2 h3).mono ?_; rintro e w2 ⟨r, m, rfl, hf, ho, hb2⟩) | fail)
  go_ret
  exact ⟨_, m, rfl, hf, own_less ho hb1.size, hb1.trans (hb2.mono hb1.size)⟩
end Go.Proofs.Qxb6608623a.qmY
