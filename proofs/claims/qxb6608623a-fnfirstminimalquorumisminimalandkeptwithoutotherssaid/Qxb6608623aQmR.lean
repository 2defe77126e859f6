/- THE WALK of slices.Repeat at a slice of one. -/
import Derived.Test.Qxb6608623aQmI
import Derived.Laws.CopyOwn
namespace Go.Proofs.Qxb6608623a.qmR
open Go.RowKit
open Go.Proofs.Qxb6608623a.Qm
open Go.Proofs.Qxb6608623a.qmW
open Go.Proofs.Qxb6608623a.qmS
open Go.Proofs.Qxb6608623a.qmI
set_option linter.unusedVariables false

theorem info23 : (Try.prog.info? 23).map (fun i => (i.zero, i.size, i.bytes)) = some (some (.int .u64 0), 1, 8) := by kernel_rfl
theorem size23 : (Try.prog.info? 23).map (fun i => i.size) = some 1 := by kernel_rfl

/-- a row that was just made -/
theorem made_row {w1 : World} {B e n g : Nat} {Z : List Value} (h : w1.ownsRow B e 1 (.slice (some ⟨g, 0, none⟩) n n) n Z) : Z.length = n ∧ w1.heap[g]? = some (.cells Z.toArray e (0, 0)) := by
  obtain ⟨hl, ⟨h, _⟩ | ⟨g', cp, cur, h, _, hh, hle, _, hsz, ht⟩⟩ := h
  · simp at h
  · simp only [Value.slice.injEq, Option.some.injEq, Addr.mk.injEq] at h
    obtain ⟨⟨rfl, _⟩, _, rfl⟩ := h
    refine ⟨by simpa using hl, ?_⟩
    rw [hh, ← ht, List.take_of_length_le (by simp [hsz])]

theorem splice_fill {Z : List Value} {p q : Nat} {x : Value} (h : ∀ i, i < p → Z[i]? = some x) (hl : p + q ≤ Z.length) : ∀ i, i < p + q → (splice Z p (List.replicate q x))[i]? = some x := by
  intro i hi
  unfold splice
  by_cases hp : i < p
  · rw [List.getElem?_append_left (by simp; omega), List.getElem?_take_of_lt hp]
    exact h i hp
  · have hlt : (List.take p Z).length = p := by simp; omega
    rw [List.getElem?_append_right (by omega), hlt, List.getElem?_append_left (by simp; omega), List.getElem?_replicate, if_pos (by omega)]

theorem eq_replicate {Y : List Value} {n : Nat} {x : Value} (h : Y.length = n) (hf : ∀ i, i < n → Y[i]? = some x) : Y = List.replicate n x := by
  apply List.ext_getElem?
  intro i
  by_cases hi : i < n
  · rw [hf i hi, List.getElem?_replicate, if_pos hi]
  · rw [List.getElem?_eq_none (by omega), List.getElem?_replicate, if_neg hi]

theorem copy_run (w w1 : World) (bx cap cols over : Nat) (Z : List Value) (hc : 1 ≤ cols) (hZ : Z.length = cols) (hg : w1.heap[w.heap.size]? = some (.cells Z.toArray 23 (0, 0))) (hx : w.cell? ⟨bx, 0, none⟩ = some (.int .u64 over)) (hb : Below w.heap.size w w1) :
    ∃ w2, (Builtin.copy_ #[64, 64] 3 #[.slice (some ⟨w.heap.size, 0, none⟩) cols cols, .slice (some ⟨bx, 0, none⟩) 1 cap]).run Try.prog w1 = .ok (.int .i64 1) w2 ∧ w2.heap[w.heap.size]? = some (.cells (splice Z 0 [.int .u64 over]).toArray 23 (0, 0)) ∧ Below w.heap.size w w2 := by
  have lx : bx < w.heap.size := World.block_lt_of_cell? w _ hx
  have hrun := run_copy_row (P := Try.prog) w1 64 64 3 23 w.heap.size 0 cols cols ⟨bx, 0, none⟩ 1 cap Z.toArray 23 [.int .u64 over] Try.underlying64 size23 hg (by show 1 = min 1 cols; omega)
    (fun j v hv => by
      obtain rfl : j = 0 := by
        have := (List.getElem?_eq_some_iff.1 hv).1
        simpa using this
      simp at hv
      subst hv
      exact (hb.cell (by exact lx)).trans hx)
    (by simp [hZ]; omega) (by simp [Value.oneCell'])
  refine ⟨_, hrun, ?_, below_setRow hb (Nat.le_refl _) _⟩
  simpa [splice] using setRow_heap w1 w.heap.size _ _ 23 _ hg

theorem copy2_run (w W : World) (p q cols over : Nat) (Y : List Value) (hp1 : 1 ≤ p) (hlt : p < cols) (hq : q = min p (cols - p)) (hY : Y.length = cols) (hf : ∀ i, i < p → Y[i]? = some (.int .u64 (over : Int))) (hg : W.heap[w.heap.size]? = some (.cells Y.toArray 23 (0, 0))) (hb : Below w.heap.size w W) :
    ∃ w2, (Builtin.copy_ #[64, 64] 3 #[.slice (some ⟨w.heap.size, p, none⟩) (cols - p) (cols - p), .slice (some ⟨w.heap.size, 0, none⟩) p cols]).run Try.prog W = .ok (.int .i64 q) w2 ∧ w2.heap[w.heap.size]? = some (.cells (splice Y p (List.replicate q (.int .u64 (over : Int)))).toArray 23 (0, 0)) ∧ Below w.heap.size w w2 := by
  have hrun := run_copy_row (P := Try.prog) W 64 64 3 23 w.heap.size p (cols - p) (cols - p) ⟨w.heap.size, 0, none⟩ p cols Y.toArray 23 (List.replicate q (.int .u64 (over : Int))) Try.underlying64 size23 hg (by rw [List.length_replicate, hq])
    (fun j v hv => by
      rw [List.getElem?_replicate] at hv
      split at hv
      · rename_i hj
        have := hf j (by omega)
        simp at hv
        subst hv
        have e : (⟨w.heap.size, 0, none⟩ : Addr).add j = ⟨w.heap.size, j, none⟩ := by cases j <;> simp [Addr.add]
        rw [e]
        simp [World.cell?, hg, this]
      · simp at hv)
    (by simp [hY]; omega) (by
      intro v hv
      rw [List.mem_replicate] at hv
      rw [hv.2]; rfl)
  have e : goInt (List.replicate q (Value.int .u64 (over : Int))).length = .int .i64 q := by simp [goInt]
  rw [e] at hrun
  refine ⟨_, hrun, ?_, below_setRow hb (Nat.le_refl _) _⟩
  simpa [splice] using setRow_heap W w.heap.size _ _ 23 _ hg

set_option maxRecDepth 100000 in
set_option maxHeartbeats 1000000 in
theorem repeat49 (bx cap cols over : Nat) (hc : 2 ≤ cols) (hc2 : cols ≤ 8388608) (w : World) (hx : w.cell? ⟨bx, 0, none⟩ = some (.int .u64 over)) :
    Calls Try.prog 49 #[.slice (some ⟨bx, 0, none⟩) 1 cap, .int .i64 cols] w
      fun e w' => e = .returned (.slice (some ⟨w.heap.size, 0, none⟩) cols cols) ∧ w'.heap[w.heap.size]? = some (.cells (List.replicate cols (.int .u64 (over : Int))).toArray 23 (0, 0)) ∧ Below w.heap.size w w' := by
  obtain ⟨i0, hi0, hz0, hz1, hz2⟩ := info_parts info23
  have lx : bx < w.heap.size := World.block_lt_of_cell? w _ hx
  have dA : decide ((cols : Int) < 0) = false := decide_eq_false (by omega)
  have dB : decide (9223372036854775807 < (cols : Int)) = false := decide_eq_false (by omega)
  go_enter Try.func49, Try.ntmps49
  go_wp2_with (first
    | (go_at_call 56; refine (mul56 cols (by omega) _).mono ?_; rintro e w' ⟨rfl, rfl⟩)
    | (at_make; refine wpList_make_full _ rfl _ _ 64 rfl w.heap.size 23 i0 (.int .u64 0) 1 Try.underlying64 hi0 hz0 hz1 .i64 .i64 _ _ cols rfl rfl rfl rfl (by rw [hz2]; omega) (by unfold maxLen; omega) (Nat.le_refl _) ?_; intro w1 hown1 hgrow1; obtain ⟨Z, hZ⟩ : ∃ Z, Z = (madeCells (Value.cells (.int .u64 0)) (cols * 1)).toList := ⟨_, rfl⟩; rw [← hZ] at hown1; clear hZ; have hb1 := grown_below hgrow1 (B := w.heap.size) (Nat.le_refl _) (by simp); have HM : Hid (Z.length = cols ∧ w1.heap[w.heap.size]? = some (.cells Z.toArray 23 (0, 0))) := made_row hown1; clear hown1 hgrow1; obtain ⟨w2, hrun, hG2, hB2⟩ := copy_run w w1 bx cap cols over Z (by omega) HM.out.1 HM.out.2 hx hb1; have HG2 : Hid (w2.heap[w.heap.size]? = some (.cells (splice Z 0 [.int .u64 over]).toArray 23 (0, 0))) := hG2; clear hG2))
  have HZ2 : Hid ((splice Z 0 [.int .u64 (over : Int)]).length = cols ∧ ∀ i, i < 1 → (splice Z 0 [.int .u64 (over : Int)])[i]? = some (.int .u64 (over : Int))) :=
    ⟨by rw [length_splice _ _ _ (by rw [HM.out.1]; simp; omega)]; exact HM.out.1, splice_fill (p := 0) (q := 1) (fun i h => absurd h (by omega)) (by rw [HM.out.1]; omega)⟩
  go_loopw [8] (fun v wr => ∃ (p : Nat) (Y : List Value), 1 ≤ p ∧ p ≤ cols ∧ v = .int .i64 p ∧ Y.length = cols ∧ (∀ i, i < p → Y[i]? = some (.int .u64 (over : Int))) ∧ wr.heap[w.heap.size]? = some (.cells Y.toArray 23 (0, 0)) ∧ Below w.heap.size w wr) (fun v _ => cols - (intOf v).toNat)
  case atStart => exact ⟨1, _, Nat.le_refl _, by omega, rfl, HZ2.out.1, HZ2.out.2, HG2.out, hB2⟩
  case round =>
    clear HZ2 HG2 hB2 HM hrun hb1
    obtain ⟨p, Y, hp1, hp2, rfl, hY, hfill, hg, hb⟩ := hrel
    have HF : Hid (∀ i, i < p → Y[i]? = some (.int .u64 (over : Int))) := hfill
    have HG : Hid (wr.heap[w.heap.size]? = some (.cells Y.toArray 23 (0, 0))) := hg
    have HY : Hid (Y.length = cols) := hY
    clear hfill hg hY
    by_cases hlt : p < cols
    · have q0 : (0 : Int) ≤ (p : Int) := Int.natCast_nonneg _
      have q1 : (p : Int) ≤ (cols : Int) := by omega
      obtain ⟨q, hq⟩ : ∃ q, q = min p (cols - p) := ⟨_, rfl⟩
      have hqp : 1 ≤ q := by omega
      have hqc : p + q ≤ cols := by omega
      have HQ : Hid (q = min p (cols - p)) := hq
      obtain ⟨w4, hrun, hg4, hb4⟩ := copy2_run w wr.drew p q cols over Y hp1 hlt HQ.out HY.out HF.out HG.out hb.drew
      have HG4 : Hid (w4.heap[w.heap.size]? = some (.cells (splice Y p (List.replicate q (.int .u64 (over : Int)))).toArray 23 (0, 0))) := hg4
      clear hq hg4
      have ew : IntKind.i64.wrap ((p : Int) + (q : Int)) = ((p + q : Nat) : Int) := by rw [IntKind.wrap_i64]; omega
      go_wp2_with fail
      go_region_held3 (fun _ => True) (exact trivial) (fail)
      go_wp2
      go_roundw
      case rel => exact ⟨p + q, _, by omega, hqc, by go_num, by rw [length_splice _ _ _ (by rw [List.length_replicate, HY.out]; exact hqc)]; exact HY.out, splice_fill HF.out (by rw [HY.out]; exact hqc), HG4.out, hb4⟩
      case measure => simp [intOf]; omega
    · obtain rfl : p = cols := by omega
      go_wp2
      go_ret
      refine ⟨rfl, ?_, hb⟩
      rw [HG.out, eq_replicate HY.out HF.out]
end Go.Proofs.Qxb6608623a.qmR
