/- WHAT THE TWO COPIES OF A TABLE LAY, and the plain facts on its places. No walk here. -/
import Derived.Test.Qxb6608623aQmL
namespace Go.Proofs.Qxb6608623a.qmL
open Go.RowKit
open Go.Proofs.Qxb6608623a.Qm
open Go.Proofs.Qxb6608623a.qmW
open Go.Proofs.Qxb6608623a.qmS
open Go.Proofs.Qxb6608623a.qmI
open Go.Proofs.Qxb6608623a.qmR
set_option linter.unusedVariables false

theorem rowCells_one (f : Nat → Nat) (n : Nat) : ∀ v ∈ rowCells f n, v.oneCell' = true := by
  intro v hv
  unfold rowCells at hv
  obtain ⟨j, _, rfl⟩ := List.mem_map.1 hv
  rfl
theorem add_at (T x j : Nat) : (⟨T, x, none⟩ : Addr).add j = ⟨T, x + j, none⟩ := by cases j <;> simp [Addr.add]

theorem tbl_copies (w : World) (B g T A A2 N1 cols : Nat) (f : Nat → Nat) (Z : List Value) (hA : A2 + cols = A) (hN : N1 = A + cols) (hT : RowIs w T f A)
    (hg : w.heap[g]? = some (.cells Z.toArray 23 (0, 0))) (hZ : Z.length = N1) (hTB : T < B) (hB : B ≤ g) :
    ∃ w2 w3, (Builtin.copy_ #[64, 64] 3 #[.slice (some ⟨g, 0, none⟩) N1 N1, .slice (some ⟨T, 0, none⟩) A A]).run Try.prog w = .ok (.int .i64 A) w2 ∧
      (Builtin.copy_ #[64, 64] 3 #[.slice (some ⟨g, A, none⟩) (N1 - A) (N1 - A), .slice (some ⟨T, A2, none⟩) (A - A2) (A - A2)]).run Try.prog w2.drew = .ok (.int .i64 cols) w3 ∧
      RowIs w3 g (fun x => if x < A then f x else f (x - cols)) N1 ∧ Below B w w3 := by
  have h1 := run_copy_row (P := Try.prog) w 64 64 3 23 g 0 N1 N1 ⟨T, 0, none⟩ A A Z.toArray 23 (rowCells f A) Try.underlying64 size23 hg (by rw [rowCells_length]; show A = min A N1; omega)
    (fun j v hv => by
      have hj : j < A := by have := (List.getElem?_eq_some_iff.1 hv).1; rwa [rowCells_length] at this
      rw [rowCells_get _ _ _ hj] at hv
      rw [add_at, Nat.zero_add, (hT.cell hj).1, ← hv])
    (by simp [rowCells_length, hZ]; omega) (rowCells_one _ _)
  have e1 : goInt (rowCells f A).length = .int .i64 A := by rw [rowCells_length]; rfl
  rw [e1] at h1
  generalize hw2 : w.setRow g (Z.toArray.toList.take 0 ++ rowCells f A ++ Z.toArray.toList.drop (0 + (rowCells f A).length)).toArray = w2 at h1
  have hg2 : w2.heap[g]? = some (.cells (rowCells f A ++ Z.drop A).toArray 23 (0, 0)) := by
    rw [← hw2]
    have := setRow_heap w g _ (Z.toArray.toList.take 0 ++ rowCells f A ++ Z.toArray.toList.drop (0 + (rowCells f A).length)).toArray 23 _ hg
    rw [this]
    simp [rowCells_length]
  have hb2 : Below B w w2 := by
    rw [← hw2]
    exact below_setRow (Below.refl _ _) hB _
  have hT2 : RowIs w2 T f A := hT.congr (hb2.block _ hTB)
  have h2 := run_copy_row (P := Try.prog) w2.drew 64 64 3 23 g A (N1 - A) (N1 - A) ⟨T, A2, none⟩ (A - A2) (A - A2) (rowCells f A ++ Z.drop A).toArray 23 ((rowCells f A).drop A2) Try.underlying64 size23 hg2 (by rw [List.length_drop, rowCells_length]; show A - A2 = min (A - A2) (N1 - A); omega)
    (fun j v hv => by
      rw [List.getElem?_drop] at hv
      have hj : A2 + j < A := by have := (List.getElem?_eq_some_iff.1 hv).1; rwa [rowCells_length] at this
      rw [rowCells_get _ _ _ hj] at hv
      rw [add_at]
      exact ((hT2.cell hj).1).trans hv)
    (by simp [rowCells_length, hZ]; omega) (fun v hv => rowCells_one _ _ v (List.mem_of_mem_drop hv))
  have e2 : goInt ((rowCells f A).drop A2).length = .int .i64 cols := by
    rw [List.length_drop, rowCells_length, show A - A2 = cols by omega]; rfl
  rw [e2] at h2
  generalize hw3 : w2.drew.setRow g _ = w3 at h2
  refine ⟨w2, w3, h1, h2, ?_, ?_⟩
  · have hg2' : w2.drew.heap[g]? = some (.cells (rowCells f A ++ Z.drop A).toArray 23 (0, 0)) := hg2
    have := setRow_heap w2.drew g _ (((rowCells f A ++ Z.drop A).toArray.toList.take A ++ (rowCells f A).drop A2 ++ (rowCells f A ++ Z.drop A).toArray.toList.drop (A + ((rowCells f A).drop A2).length)).toArray) 23 _ hg2'
    have key : ((rowCells f A ++ Z.drop A).toArray.toList.take A ++ (rowCells f A).drop A2 ++ (rowCells f A ++ Z.drop A).toArray.toList.drop (A + ((rowCells f A).drop A2).length)) = rowCells (fun x => if x < A then f x else f (x - cols)) N1 := by
      apply List.ext_getElem?
      intro x
      have t1 : (rowCells f A ++ Z.drop A).take A = rowCells f A := by
        rw [List.take_append_of_le_length (by rw [rowCells_length]; exact Nat.le_refl _), List.take_of_length_le (by rw [rowCells_length]; exact Nat.le_refl _)]
      have t2 : (rowCells f A ++ Z.drop A).drop (A + ((rowCells f A).drop A2).length) = [] := by
        apply List.drop_eq_nil_of_le
        simp [rowCells_length, hZ]
        omega
      simp only [t1, t2, List.append_nil]
      by_cases hx : x < N1
      · rw [rowCells_get _ _ _ hx]
        by_cases hxA : x < A
        · rw [List.getElem?_append_left (by rw [rowCells_length]; exact hxA), rowCells_get _ _ _ hxA, if_pos hxA]
        · rw [List.getElem?_append_right (by rw [rowCells_length]; omega), rowCells_length, List.getElem?_drop, rowCells_get _ _ _ (by omega), if_neg hxA, show A2 + (x - A) = x - cols by omega]
      · rw [List.getElem?_eq_none (by simp [rowCells_length]; omega), List.getElem?_eq_none (by simp [rowCells_length]; omega)]
    unfold RowIs
    rw [key] at this
    rw [← hw3, key]
    exact this
  · rw [← hw3]
    exact below_setRow hb2.drew hB _

theorem rows_all {over cols d : Nat} {rest : List Vt} (hc : 0 < cols) (hd : rest.length + 1 = d) (x : Nat) : (if x < d * cols then cellOf over cols rest x else cellOf over cols rest (x - cols)) = cellOf over cols rest x := by
  split
  · rfl
  · rename_i h
    obtain ⟨y, rfl⟩ : ∃ y, x = y + cols := ⟨x - cols, by
      have : 1 * cols ≤ d * cols := Nat.mul_le_mul_right _ (by omega)
      omega⟩
    unfold cellOf
    rw [Nat.add_sub_cancel, Nat.add_div_right _ hc, Nat.add_mod_right, Lc_all]
    refine (Nat.le_div_iff_mul_le hc).2 ?_
    have : d * cols = rest.length * cols + cols := by rw [← hd, Nat.add_mul, Nat.one_mul]
    omega

/-- half way through a table: what lies ahead of place P is new -/
def mixA (f g : Nat → Nat) (P : Nat) : Nat → Nat := fun x => if x < P then f x else g x
theorem place_div {cols q : Nat} (k : Nat) (hq : q < cols) : (k * cols + q) / cols = k := by
  rw [Nat.mul_comm, Nat.mul_add_div (by omega), Nat.div_eq_of_lt hq, Nat.add_zero]
theorem place_mod {cols q : Nat} (k : Nat) (hq : q < cols) : (k * cols + q) % cols = q := by
  rw [Nat.mul_comm, Nat.mul_add_mod, Nat.mod_eq_of_lt hq]
theorem cellOf_at {over cols q : Nat} {us : List Vt} (k : Nat) (hq : q < cols) : cellOf over cols us (k * cols + q) = Lc over us k q := by
  unfold cellOf
  rw [place_div k hq, place_mod k hq]
theorem cell_step {over cols q j : Nat} {v : Vt} {rest : List Vt} (hq : q < cols) : cellOf over cols (v :: rest) ((j + 1) * cols + q) = min (cellOf over cols rest ((j + 1) * cols + q)) (addU (cellOf over cols rest (j * cols + (q - v.w))) v.c over) := by
  rw [cellOf_at _ hq, cellOf_at _ hq, cellOf_at _ (by omega)]
  rfl
theorem cell_none {over cols x : Nat} {v : Vt} {rest : List Vt} (hx : x < cols) : cellOf over cols (v :: rest) x = cellOf over cols rest x := by
  unfold cellOf
  rw [Nat.div_eq_of_lt hx]
  rfl
theorem cellOf_le {over cols : Nat} {us : List Vt} (x : Nat) : cellOf over cols us x ≤ over := Lc_le_over _ _ _ _
theorem mixA_start {over cols : Nat} {v : Vt} {rest : List Vt} (x : Nat) : cellOf over cols rest x = mixA (cellOf over cols (v :: rest)) (cellOf over cols rest) cols x := by
  unfold mixA
  split
  · rename_i h
    rw [cell_none h]
  · rfl
theorem mixA_set {w : World} {g P N1 x : Nat} {f h : Nat → Nat} (hr : RowIs w g (mixA f h P) N1) (hx : f P = x) : RowIs (w.setCell ⟨g, P, none⟩ (.int .u64 (x : Nat))) g (mixA f h (P + 1)) N1 :=
  (hr.set P x).ext (fun j _ => by
    unfold mixA
    by_cases hj : j = P
    · subst hj
      rw [if_pos rfl, if_pos (by omega), hx]
    · rw [if_neg hj]
      by_cases h2 : j < P
      · rw [if_pos h2, if_pos (by omega)]
      · rw [if_neg h2, if_neg (by omega)])
theorem own_drewN {w : World} {B : Nat} {e : TypeId} {size n : Nat} {v : Value} {xs : List Value} (h : w.ownsRow B e size v n xs) (m : Nat) : (w.drewN m).ownsRow B e size v n xs := own_congr h (fun _ _ => rfl)
theorem own_ne {w : World} {B : Nat} {e : TypeId} {size n : Nat} {v : Value} {xs : List Value} (h : w.ownsRow B e size v n xs) : v.ownBlock ≠ some w.heap.size := fun e => by
  obtain ⟨cur, hc⟩ := own_block h e
  have := lt_of_some hc
  omega
theorem new1d (w : World) (o p : Obj) (n : Nat) : (((w.alloc o).drewN n).alloc p).heap[w.heap.size]? = some o := by
  rw [Below.heap_alloc _ _ _ (by show w.heap.size < (w.alloc o).heap.size; simp)]
  exact heap_alloc_new w o
theorem new2d (w : World) (o p : Obj) (n : Nat) : (((w.alloc o).drewN n).alloc p).heap[w.heap.size + 1]? = some p := by
  have := heap_alloc_new ((w.alloc o).drewN n) p
  have e : ((w.alloc o).drewN n).heap.size = w.heap.size + 1 := by show (w.alloc o).heap.size = _; simp
  rw [e] at this
  exact this
end Go.Proofs.Qxb6608623a.qmL
