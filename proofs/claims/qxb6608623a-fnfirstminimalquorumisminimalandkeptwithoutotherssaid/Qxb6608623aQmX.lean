/- THE WALKS of sameStrings and of split. -/
import Derived.Test.Qxb6608623aQmV
import Derived.Test.Qxb6608623aQmL
namespace Go.Proofs.Qxb6608623a.qmX
open Go.RowKit
open Go.Proofs.Qxb6608623a.Qm
open Go.Proofs.Qxb6608623a.qmW
open Go.Proofs.Qxb6608623a.qmS
open Go.Proofs.Qxb6608623a.qmI
open Go.Proofs.Qxb6608623a.qmR
open Go.Proofs.Qxb6608623a.qmL
open Go.Proofs.Qxb6608623a.qmV
set_option linter.unusedVariables false
set_option linter.unusedSimpArgs false

theorem eql_nil (g n c : Nat) (w : World) : Sem.run Try.prog (binOp BinOp.eql 30 (Value.slice (some ⟨g, 0, none⟩) n c) (Value.slice none 0 0)) w = .ok (.bool false) w := by kernel_rfl

set_option maxRecDepth 100000 in
set_option maxHeartbeats 1000000 in
theorem same12 (g1 c1 g2 c2 n : Nat) (xs : List Vt) (hlen : xs.length = n) (hn : n ≤ 256) (w : World) (l1 : g1 < w.heap.size) (l2 : g2 < w.heap.size)
    (h1 : ∀ i v, xs[i]? = some v → w.cell? ⟨g1, i, none⟩ = some (.string v.id)) (h2 : ∀ i v, xs[i]? = some v → w.cell? ⟨g2, i, none⟩ = some (.string v.id)) :
    Calls Try.prog 12 #[.slice (some ⟨g1, 0, none⟩) n c1, .slice (some ⟨g2, 0, none⟩) n c2] w fun e w' => e = .returned (.bool true) ∧ Below w.heap.size w w' := by
  have HL : Hid (xs.length = n) := hlen
  have H1 : Hid (∀ i v, xs[i]? = some v → w.cell? ⟨g1, i, none⟩ = some (.string v.id)) := h1
  have H2 : Hid (∀ i v, xs[i]? = some v → w.cell? ⟨g2, i, none⟩ = some (.string v.id)) := h2
  clear hlen h1 h2
  have hen := eql_nil
  go_enter Try.func12, Try.ntmps12
  go_wp2
  go_loopw [5] (fun iv wr => ∃ i : Nat, i ≤ n ∧ iv = .int .i64 i ∧ Below w.heap.size w wr) (fun iv _ => n - (intOf iv).toNat)
  case atStart => exact ⟨0, Nat.zero_le _, by go_num, Below.refl _ _⟩
  case round =>
    obtain ⟨i, hi, rfl, hbel⟩ := hrel
    by_cases hlt : i < n
    · obtain ⟨v, hv⟩ : ∃ v, xs[i]? = some v := ⟨_, List.getElem?_eq_getElem (by rw [HL.out]; exact hlt)⟩
      have d1 := (hbel.cell (show (⟨g1, i, none⟩ : Addr).block < w.heap.size from l1)).trans (H1.out i v hv)
      have d2 := (hbel.cell (show (⟨g2, i, none⟩ : Addr).block < w.heap.size from l2)).trans (H2.out i v hv)
      have i0 : (0 : Int) ≤ (i : Int) := Int.natCast_nonneg _
      have i1 : (i : Int) < (n : Int) := by omega
      clear hv
      go_wp2_with fail
      go_quiet (fail)
      go_wp2
      go_roundw
      case rel => exact ⟨i + 1, by omega, by go_num, hbel.trans ((qmS.below_drewN _ _).mono hbel.size)⟩
      case measure => simp [intOf]; omega
    · obtain rfl : i = n := by omega
      go_wp2
      go_ret
      exact ⟨rfl, hbel⟩

/-- a row of one-cell values, filled up to place j -/
def Fil (w : World) (g : Nat) (t : TypeId) (f : Nat → Value) (j n : Nat) : Prop := ∃ Z : List Value, w.heap[g]? = some (.cells Z.toArray t (0, 0)) ∧ Z.length = n ∧ ∀ i, i < j → Z[i]? = some (f i)
theorem Fil.cell {w : World} {g j n i : Nat} {t : TypeId} {f : Nat → Value} (h : Fil w g t f j n) (hi : i < n) : ∃ z, w.cell? ⟨g, i, none⟩ = some z ∧ w.frozen? ⟨g, i, none⟩ = false := by
  obtain ⟨Z, h1, h2, h3⟩ := h
  exact ⟨Z[i], CellsAre.cell (t := t) (L := Z) h1 (List.getElem?_eq_getElem (by omega))⟩
theorem Fil.get {w : World} {g j n i : Nat} {t : TypeId} {f : Nat → Value} (h : Fil w g t f j n) (hi : i < j) : w.cell? ⟨g, i, none⟩ = some (f i) := by
  obtain ⟨Z, h1, h2, h3⟩ := h
  exact (CellsAre.cell (t := t) (L := Z) h1 (h3 i hi)).1
theorem Fil.set {w : World} {g j n : Nat} {t : TypeId} {f : Nat → Value} {x : Value} (h : Fil w g t f j n) (hj : j < n) (hx : f j = x) : Fil (w.setCell ⟨g, j, none⟩ x) g t f (j + 1) n := by
  obtain ⟨Z, h1, h2, h3⟩ := h
  refine ⟨Z.set j x, CellsAre.set (t := t) (L := Z) h1 j _, by simpa using h2, fun i hi => ?_⟩
  by_cases e : i = j
  · subst e
    rw [List.getElem?_set_self (by omega), hx]
  · rw [List.getElem?_set_ne (Ne.symm e)]
    exact h3 i (by omega)
theorem Fil.lt {w : World} {g j n : Nat} {t : TypeId} {f : Nat → Value} (h : Fil w g t f j n) : g < w.heap.size := by
  obtain ⟨Z, h1, _⟩ := h
  exact lt_of_some h1
theorem Fil.congr {w w' : World} {g j n : Nat} {t : TypeId} {f : Nat → Value} (h : Fil w g t f j n) (e : w'.heap[g]? = w.heap[g]?) : Fil w' g t f j n := by
  obtain ⟨Z, h1, h2⟩ := h
  exact ⟨Z, by rw [e]; exact h1, h2⟩

def vtd : Vt := ⟨⟨#[]⟩, 0, 0⟩
def fI (vs : List Vt) (i : Nat) : Value := .string (vs.getD i vtd).id
def fW (vs : List Vt) (i : Nat) : Value := .int .u64 ((vs.getD i vtd).w : Nat)
def fC (vs : List Vt) (i : Nat) : Value := .int .u64 ((vs.getD i vtd).c : Nat)
theorem f_at {vs : List Vt} {i : Nat} {v : Vt} (h : vs[i]? = some v) : fI vs i = .string v.id ∧ fW vs i = .int .u64 (v.w : Nat) ∧ fC vs i = .int .u64 (v.c : Nat) := by
  have : vs.getD i vtd = v := by simp [List.getD, h]
  unfold fI fW fC
  rw [this]
  exact ⟨rfl, rfl, rfl⟩

set_option maxRecDepth 100000 in
set_option maxHeartbeats 2000000 in
theorem split24 (a : Option Addr) (n cap : Nat) (vs : List Vt) (hvs : vs.length = n) (hn : n ≤ 256) (w : World) (hV : Vs w a vs) :
    Calls Try.prog 24 #[.slice a n cap] w fun e w' => ∃ gi gw gc : Nat, e = .returned (.tuple #[.slice (some ⟨gi, 0, none⟩) n n, .slice (some ⟨gw, 0, none⟩) n n, .slice (some ⟨gc, 0, none⟩) n n]) ∧ Fil w' gi 9 (fI vs) n n ∧ Fil w' gw 23 (fW vs) n n ∧ Fil w' gc 23 (fC vs) n n ∧ Below w.heap.size w w' := by
  obtain ⟨i9, hi9, hz90, hz91, hz92⟩ := info_parts info9
  obtain ⟨i23, hi23, hz230, hz231, hz232⟩ := info_parts info23
  have HV : Hid (Vs w a vs) := hV
  have HL : Hid (vs.length = n) := hvs
  clear hV hvs
  go_enter Try.func24, Try.ntmps24
  go_upto_region 2 with (first | (at_make; refine wpList_make_full _ rfl _ _ 30 rfl w.heap.size 9 i9 (.string ⟨#[]⟩) 1 Try.underlying30 hi9 hz90 hz91 .i64 .i64 _ _ n rfl rfl rfl rfl (by rw [hz92]; omega) (by unfold maxLen; omega) (Nat.le_refl _) ?_; intro w1 hown1 hgrow1) | fail)
  obtain ⟨l1, m1⟩ := made_row hown1
  have b1 : Below w.heap.size w w1 := grown_below hgrow1 (Nat.le_refl _) (by simp)
  go_upto_region 3 with (first | (at_make; refine wpList_make_full _ rfl _ _ 64 rfl w.heap.size 23 i23 (.int .u64 0) 1 Try.underlying64 hi23 hz230 hz231 .i64 .i64 _ _ n rfl rfl rfl rfl (by rw [hz232]; omega) (by unfold maxLen; omega) b1.size ?_; intro w2 hown2 hgrow2) | fail)
  obtain ⟨l2, m2⟩ := made_row hown2
  have b2 : Below w1.heap.size w1 w2 := grown_below hgrow2 (Nat.le_refl _) (by simp)
  go_wp2_with (first | (at_make; refine wpList_make_full _ rfl _ _ 64 rfl w.heap.size 23 i23 (.int .u64 0) 1 Try.underlying64 hi23 hz230 hz231 .i64 .i64 _ _ n rfl rfl rfl rfl (by rw [hz232]; omega) (by unfold maxLen; omega) (Nat.le_trans b1.size b2.size) ?_; intro w3 hown3 hgrow3) | fail)
  obtain ⟨l3, m3⟩ := made_row hown3
  have b3 : Below w2.heap.size w2 w3 := grown_below hgrow3 (Nat.le_refl _) (by simp)
  have F1 : Hid (Fil w3 w.heap.size 9 (fI vs) 0 n) := ⟨_, (b3.block _ (Nat.lt_of_lt_of_le (lt_of_some m1) b2.size)).trans ((b2.block _ (lt_of_some m1)).trans m1), l1, fun i hi => absurd hi (by omega)⟩
  have F2 : Hid (Fil w3 w1.heap.size 23 (fW vs) 0 n) := ⟨_, (b3.block _ (lt_of_some m2)).trans m2, l2, fun i hi => absurd hi (by omega)⟩
  have F3 : Hid (Fil w3 w2.heap.size 23 (fC vs) 0 n) := ⟨_, m3, l3, fun i hi => absurd hi (by omega)⟩
  have n12 : w.heap.size < w1.heap.size := lt_of_some m1
  have n23 : w1.heap.size < w2.heap.size := lt_of_some m2
  have HB3 : Hid (Below w.heap.size w w3) := b1.trans ((b2.trans (b3.mono b2.size)).mono b1.size)
  clear hown1 hgrow1 hown2 hgrow2 hown3 hgrow3 l1 m1 l2 m2 l3 m3 b1 b2 b3
  go_loopw [8] (fun iv wq => ∃ i : Nat, i ≤ n ∧ iv = .int .i64 i ∧ Fil wq w.heap.size 9 (fI vs) i n ∧ Fil wq w1.heap.size 23 (fW vs) i n ∧ Fil wq w2.heap.size 23 (fC vs) i n ∧ Below w.heap.size w wq) (fun iv _ => n - (intOf iv).toNat)
  case atStart => exact ⟨0, Nat.zero_le _, by go_num, F1.out, F2.out, F3.out, HB3.out⟩
  case round =>
    clear F1 F2 F3 HB3
    obtain ⟨i, hi, rfl, h1, h2, h3, hbel⟩ := hrel
    by_cases hlt : i < n
    · obtain ⟨v, hv⟩ : ∃ v, vs[i]? = some v := ⟨_, List.getElem?_eq_getElem (by rw [HL.out]; exact hlt)⟩
      obtain ⟨e1, e2, e3⟩ := f_at hv
      obtain ⟨b, o, rfl, hbl, hvt⟩ := HV.out i v hv
      obtain ⟨d0, d1, d2⟩ := hvt.below hbel hbl
      have G1 : Hid (Fil wr w.heap.size 9 (fI vs) i n) := h1
      have G2 : Hid (Fil wr w1.heap.size 23 (fW vs) i n) := h2
      have G3 : Hid (Fil wr w2.heap.size 23 (fC vs) i n) := h3
      obtain ⟨z1, c1, f1⟩ := h1.cell hlt
      have i0 : (0 : Int) ≤ (i : Int) := Int.natCast_nonneg _
      have i1 : (i : Int) < (n : Int) := by omega
      have E : Hid (fI vs i = .string v.id ∧ fW vs i = .int .u64 (v.w : Nat) ∧ fC vs i = .int .u64 (v.c : Nat)) := ⟨e1, e2, e3⟩
      have HVT : Hid (VtAt w b o i v) := hvt
      clear hv hvt h1 h2 h3 e1 e2 e3
      go_upto_region 8 with fail
      obtain ⟨X1, hX1⟩ : ∃ X, X = wr.setCell ⟨w.heap.size, i, none⟩ (.string v.id) := ⟨_, rfl⟩
      rw [← hX1]
      have K1 : Hid (Fil X1 w.heap.size 9 (fI vs) (i + 1) n) := by rw [hX1]; exact G1.out.set hlt E.out.1
      have K2 : Fil X1 w1.heap.size 23 (fW vs) i n := by rw [hX1]; exact G2.out.congr (Below.heap_setCell _ _ _ _ (by show w1.heap.size ≠ w.heap.size; omega))
      have K3 : Fil X1 w2.heap.size 23 (fC vs) i n := by rw [hX1]; exact G3.out.congr (Below.heap_setCell _ _ _ _ (by show w2.heap.size ≠ w.heap.size; omega))
      have KB : Below w.heap.size w X1 := by rw [hX1]; exact below_setCell hbel (Nat.le_refl _) _
      obtain ⟨z2, c2, f2⟩ := K2.cell hlt
      obtain ⟨_, y1, _⟩ := HVT.out.below KB hbl
      have HK2 : Hid (Fil X1 w1.heap.size 23 (fW vs) i n) := K2
      have HK3 : Hid (Fil X1 w2.heap.size 23 (fC vs) i n) := K3
      have HKB : Hid (Below w.heap.size w X1) := KB
      clear hX1 K2 K3 KB c1 f1 d0 d1 d2 hbel
      go_upto_region 9 with fail
      obtain ⟨X2, hX2⟩ : ∃ X, X = X1.setCell ⟨w1.heap.size, i, none⟩ (.int .u64 v.w) := ⟨_, rfl⟩
      rw [← hX2]
      have L1 : Hid (Fil X2 w.heap.size 9 (fI vs) (i + 1) n) := by rw [hX2]; exact K1.out.congr (Below.heap_setCell _ _ _ _ (by show w.heap.size ≠ w1.heap.size; omega))
      have L2 : Hid (Fil X2 w1.heap.size 23 (fW vs) (i + 1) n) := by rw [hX2]; exact HK2.out.set hlt E.out.2.1
      have L3 : Fil X2 w2.heap.size 23 (fC vs) i n := by rw [hX2]; exact HK3.out.congr (Below.heap_setCell _ _ _ _ (by show w2.heap.size ≠ w1.heap.size; omega))
      have LB : Below w.heap.size w X2 := by rw [hX2]; exact below_setCell HKB.out (by show w.heap.size ≤ w1.heap.size; omega) _
      obtain ⟨z3, c3, f3⟩ := L3.cell hlt
      obtain ⟨_, _, y2⟩ := HVT.out.below LB hbl
      have HL3 : Hid (Fil X2 w2.heap.size 23 (fC vs) i n) := L3
      have HLB : Hid (Below w.heap.size w X2) := LB
      clear hX2 L3 LB c2 f2 y1
      go_wp2
      go_roundw
      case rel => exact ⟨i + 1, by omega, by go_num, L1.out.congr (Below.heap_setCell _ _ _ _ (by show w.heap.size ≠ w2.heap.size; omega)), L2.out.congr (Below.heap_setCell _ _ _ _ (by show w1.heap.size ≠ w2.heap.size; omega)), HL3.out.set hlt E.out.2.2, below_setCell HLB.out (by show w.heap.size ≤ w2.heap.size; omega) _⟩
      case measure => simp [intOf]; omega
    · obtain rfl : i = n := by omega
      go_wp2
      refine bodyPost_ret (v := .tuple #[.slice (some ⟨w.heap.size, 0, none⟩) i i, .slice (some ⟨w1.heap.size, 0, none⟩) i i, .slice (some ⟨w2.heap.size, 0, none⟩) i i]) (by simp [results, Try.results24, go_sem]) rfl ⟨_, _, _, rfl, h1, h2, h3, hbel⟩
end Go.Proofs.Qxb6608623a.qmX
