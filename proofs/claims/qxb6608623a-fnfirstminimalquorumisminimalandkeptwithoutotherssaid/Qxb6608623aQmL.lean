/- WHAT LIES IN MEMORY: rows of numbers, the tables of firstByTables. No walk here. -/
import Derived.Test.Qxb6608623aQmR
namespace Go.Proofs.Qxb6608623a.qmL
open Go.RowKit
open Go.Proofs.Qxb6608623a.Qm
open Go.Proofs.Qxb6608623a.qmW
open Go.Proofs.Qxb6608623a.qmS
open Go.Proofs.Qxb6608623a.qmI
open Go.Proofs.Qxb6608623a.qmR
set_option linter.unusedVariables false

/-- a row of numbers, by what it holds at each place -/
def rowCells (f : Nat → Nat) (n : Nat) : List Value := (List.range n).map fun j => .int .u64 (f j : Nat)
theorem rowCells_get (f : Nat → Nat) (n j : Nat) (h : j < n) : (rowCells f n)[j]? = some (.int .u64 (f j : Nat)) := by
  simp [rowCells, h]
theorem rowCells_length (f : Nat → Nat) (n : Nat) : (rowCells f n).length = n := by simp [rowCells]
theorem rowCells_ext {f g : Nat → Nat} {n : Nat} (h : ∀ j, j < n → f j = g j) : rowCells f n = rowCells g n := by
  unfold rowCells
  apply List.map_congr_left
  intro j hj
  rw [h j (by simpa using hj)]
theorem rowCells_set (f : Nat → Nat) (n q x : Nat) : (rowCells f n).set q (.int .u64 (x : Nat)) = rowCells (fun j => if j = q then x else f j) n := by
  apply List.ext_getElem?
  intro j
  by_cases hj : j < n
  · rw [rowCells_get _ _ _ hj]
    by_cases hq : j = q
    · subst hq
      rw [List.getElem?_set_self (by rw [rowCells_length]; exact hj)]
      simp
    · rw [List.getElem?_set_ne (Ne.symm hq), rowCells_get _ _ _ hj]
      simp [hq]
  · rw [List.getElem?_eq_none (by simp [rowCells_length]; omega), List.getElem?_eq_none (by simp [rowCells_length]; omega)]
theorem replicate_row (n x : Nat) : List.replicate n (.int .u64 (x : Int)) = rowCells (fun _ => x) n := by
  apply List.ext_getElem?
  intro j
  by_cases hj : j < n
  · rw [rowCells_get _ _ _ hj, List.getElem?_replicate, if_pos hj]
  · rw [List.getElem?_eq_none (by simp; omega), List.getElem?_eq_none (by simp [rowCells_length]; omega)]

/-- the block g holds the row f -/
def RowIs (w : World) (g : Nat) (f : Nat → Nat) (n : Nat) : Prop := w.heap[g]? = some (.cells (rowCells f n).toArray 23 (0, 0))
theorem RowIs.cell {w : World} {g n : Nat} {f : Nat → Nat} (h : RowIs w g f n) {j : Nat} (hj : j < n) : w.cell? ⟨g, j, none⟩ = some (.int .u64 (f j : Nat)) ∧ w.frozen? ⟨g, j, none⟩ = false := by
  unfold RowIs at h
  simp [World.cell?, World.frozen?, h, rowCells_get _ _ _ hj]
theorem RowIs.set {w : World} {g n : Nat} {f : Nat → Nat} (h : RowIs w g f n) (q x : Nat) : RowIs (w.setCell ⟨g, q, none⟩ (.int .u64 (x : Nat))) g (fun j => if j = q then x else f j) n := by
  unfold RowIs at h ⊢
  rw [setCell_eq_setRow _ _ _ _ _ _ _ h, setRow_heap _ _ _ _ _ _ h]
  simp only [List.setIfInBounds_toArray, rowCells_set]
theorem RowIs.congr {w w' : World} {g n : Nat} {f : Nat → Nat} (h : RowIs w g f n) (e : w'.heap[g]? = w.heap[g]?) : RowIs w' g f n := by
  unfold RowIs at h ⊢
  rw [e, h]
theorem RowIs.ext {w : World} {g n : Nat} {f f' : Nat → Nat} (h : RowIs w g f n) (e : ∀ j, j < n → f j = f' j) : RowIs w g f' n := by
  unfold RowIs at h ⊢
  rw [h, rowCells_ext e]
theorem below_setCell {B : Nat} {w0 w : World} (hb : Below B w0 w) {a : Addr} (ha : B ≤ a.block) (v : Value) : Below B w0 (w.setCell a v) :=
  hb.trans ⟨rfl, rfl, rfl, by simp [World.setCell], fun k hk => Below.heap_setCell _ _ _ _ (by omega)⟩

theorem take_foldl {vs : List Vt} {k : Nat} {v : Vt} (h : vs[k]? = some v) (over : Nat) (f : Nat → Nat) : (vs.take (k + 1)).foldl (rowStep over) f = rowStep over ((vs.take k).foldl (rowStep over) f) v := by
  rw [List.take_add_one, h, List.foldl_append]
  rfl
/-- half way through a row: what lies behind place q is new -/
def mix (f g : Nat → Nat) (q : Nat) : Nat → Nat := fun j => if q < j then g j else f j
theorem at_three {w : World} {x : Nat} {t : TypeId} {u0 u1 u2 : Value} (k : w.heap[x]? = some (.cells #[u0, u1, u2] t (0, 0))) : w.cell? ⟨x, 0, none⟩ = some u0 ∧ w.cell? ⟨x, 1, none⟩ = some u1 ∧ w.cell? ⟨x, 2, none⟩ = some u2 := by
  simp [World.cell?, k]

theorem row_of {w w1 : World} {o : Obj} {n x : Nat} (h : w1.heap[(w.alloc o).heap.size]? = some (.cells (List.replicate n (.int .u64 (x : Int))).toArray 23 (0, 0))) : RowIs w1 (w.heap.size + 1) (fun _ => x) n := by
  unfold RowIs
  rw [← replicate_row]
  simpa using h

/-- the block g holds the cells L, of type t -/
def CellsAre (w : World) (g : Nat) (L : List Value) (t : TypeId) : Prop := w.heap[g]? = some (.cells L.toArray t (0, 0))
theorem CellsAre.cell {w : World} {g : Nat} {L : List Value} {t : TypeId} (h : CellsAre w g L t) {j : Nat} {v : Value} (hj : L[j]? = some v) : w.cell? ⟨g, j, none⟩ = some v ∧ w.frozen? ⟨g, j, none⟩ = false := by
  unfold CellsAre at h
  simp [World.cell?, World.frozen?, h, hj]
theorem CellsAre.set {w : World} {g : Nat} {L : List Value} {t : TypeId} (h : CellsAre w g L t) (q : Nat) (v : Value) : CellsAre (w.setCell ⟨g, q, none⟩ v) g (L.set q v) t := by
  unfold CellsAre at h ⊢
  rw [setCell_eq_setRow _ _ _ _ _ _ _ h, setRow_heap _ _ _ _ _ _ h]
  simp only [List.setIfInBounds_toArray]
theorem CellsAre.congr {w w' : World} {g : Nat} {L : List Value} {t : TypeId} (h : CellsAre w g L t) (e : w'.heap[g]? = w.heap[g]?) : CellsAre w' g L t := by
  unfold CellsAre at h ⊢
  rw [e, h]


/-- what the table of the voters us holds at each place -/
def cellOf (over cols : Nat) (us : List Vt) : Nat → Nat := fun x => Lc over us (x / cols) (x % cols)

theorem rows_apart {w : World} {a b : Nat} {L L' : List Value} {t t' : TypeId} (h : CellsAre w a L t) (h' : CellsAre w b L' t') (ht : t ≠ t') : a ≠ b := by
  intro e
  subst e
  unfold CellsAre at h h'
  rw [h] at h'
  simp only [Option.some.injEq, Obj.cells.injEq] at h'
  exact ht h'.2.1

/-- the tables from i on -/
structure Tbl (w : World) (B Lb n cols over : Nat) (vs : List Vt) (i : Nat) (T : Nat → Nat) (L : List Value) : Prop where
  lst : CellsAre w Lb L 64
  len : L.length = n + 1
  at_ : ∀ j, i ≤ j → j ≤ n → L[j]? = some (.slice (some ⟨T j, 0, none⟩) ((n - j + 1) * cols) ((n - j + 1) * cols))
  row : ∀ j, i ≤ j → j ≤ n → RowIs w (T j) (cellOf over cols (vs.drop j)) ((n - j + 1) * cols)
  ge : ∀ j, i ≤ j → j ≤ n → B ≤ T j
  gl : B ≤ Lb
theorem Tbl.below {w w' : World} {B Lb n cols over i : Nat} {vs : List Vt} {T : Nat → Nat} {L : List Value} (h : Tbl w B Lb n cols over vs i T L) (hb : Below w.heap.size w w') : Tbl w' B Lb n cols over vs i T L :=
  ⟨h.lst.congr (hb.block _ (lt_of_some h.lst)), h.len, h.at_, fun j h1 h2 => (h.row j h1 h2).congr (hb.block _ (lt_of_some (h.row j h1 h2))), h.ge, h.gl⟩
theorem Tbl.step {w : World} {B Lb n cols over i g : Nat} {vs : List Vt} {T : Nat → Nat} {L : List Value} (h : Tbl w B Lb n cols over vs (i + 1) T L) (hi : i < n) (hg : B ≤ g) (hrow : RowIs w g (cellOf over cols (vs.drop i)) ((n - i + 1) * cols)) :
    Tbl (w.setCell ⟨Lb, i, none⟩ (.slice (some ⟨g, 0, none⟩) ((n - i + 1) * cols) ((n - i + 1) * cols))) B Lb n cols over vs i (fun j => if j = i then g else T j) (L.set i (.slice (some ⟨g, 0, none⟩) ((n - i + 1) * cols) ((n - i + 1) * cols))) := by
  have key : ∀ {x : Nat} {f : Nat → Nat} {m : Nat} (v : Value), RowIs w x f m → RowIs (w.setCell ⟨Lb, i, none⟩ v) x f m := fun v hr =>
    hr.congr (Below.heap_setCell _ _ _ _ (rows_apart (L := rowCells _ _) (t := 23) hr h.lst (by decide)))
  refine ⟨h.lst.set _ _, by simpa using h.len, fun j h1 h2 => ?_, fun j h1 h2 => ?_, fun j h1 h2 => ?_, h.gl⟩
  · by_cases hj : j = i
    · subst hj
      rw [List.getElem?_set_self (by rw [h.len]; omega)]
      simp
    · rw [List.getElem?_set_ne (Ne.symm hj), h.at_ j (by omega) h2]
      simp [hj]
  · by_cases hj : j = i
    · subst hj
      simp only [if_true]
      exact key _ hrow
    · simp only [if_neg hj]
      exact key _ (h.row j (by omega) h2)
  · by_cases hj : j = i
    · subst hj
      simpa using hg
    · simp only [if_neg hj]
      exact h.ge j (by omega) h2
theorem Tbl.start {w : World} {B Lb n cols over g : Nat} {vs : List Vt} {L : List Value} (hl : CellsAre w Lb L 64) (len : L.length = n + 1) (hz : L[n]? = some (.slice (some ⟨g, 0, none⟩) cols cols)) (hr : RowIs w g (row0 over) cols) (hv : vs.length = n) (hg : B ≤ g) (hL : B ≤ Lb) :
    Tbl w B Lb n cols over vs n (fun _ => g) L := by
  have e1 : ∀ j, n ≤ j → j ≤ n → (n - j + 1) * cols = cols := fun j h1 h2 => by
    obtain rfl : j = n := by omega
    simp
  refine ⟨hl, len, fun j h1 h2 => ?_, fun j h1 h2 => ?_, fun _ _ _ => hg, hL⟩
  · rw [e1 j h1 h2, show j = n by omega]
    exact hz
  · rw [e1 j h1 h2]
    refine hr.ext fun x hx => ?_
    rw [List.drop_eq_nil_of_le (by omega)]
    unfold cellOf row0
    simp only [Lc]
    rw [Nat.mod_eq_of_lt hx]
end Go.Proofs.Qxb6608623a.qmL
