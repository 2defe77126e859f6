/- THE WALK of newHalf. -/
import Derived.Test.Qxb6608623aQmM
namespace Go.Proofs.Qxb6608623a.qmN
open Go.RowKit
open Go.Proofs.Qxb6608623a.Qm
open Go.Proofs.Qxb6608623a.qmW
open Go.Proofs.Qxb6608623a.qmS
open Go.Proofs.Qxb6608623a.qmI
open Go.Proofs.Qxb6608623a.qmR
open Go.Proofs.Qxb6608623a.qmL
open Go.Proofs.Qxb6608623a.qmM
set_option linter.unusedVariables false
set_option linter.unusedSimpArgs false
attribute [local go_sem ↓] Go.wp_at_zero Go.wp_at_succ

theorem info64 : (Try.prog.info? 64).map (fun i => (i.zero, i.size, i.bytes)) = some (some (.slice none 0 0), 1, 24) := by kernel_rfl
theorem info99 : (Try.prog.info? 99).map (fun i => (i.zero, i.size, i.bytes)) = some (some (.slice none 0 0), 1, 24) := by kernel_rfl
theorem info101 : (Try.prog.info? 101).map (fun i => (i.zero, i.size, i.bytes)) = some (some (.agg #[.int .u64 0, .int .u64 0, .int .u64 0]), 3, 24) := by kernel_rfl

structure HvSz (w : World) (Hb : Nat) (H : List Value) (m : Nat) (S : List (List Sb)) : Prop where
  cells : CellsAre w Hb H 64
  len : H.length = m
  at_ : ∀ (k : Nat) (T : List Sb), S[k]? = some T → ∃ g, H[k]? = some (.slice (some ⟨g, 0, none⟩) T.length T.length) ∧ RowIs w g (fun j => (hvs 0 T).getD j 0) T.length
theorem HvSz.below {w w' : World} {Hb m : Nat} {H : List Value} {S : List (List Sb)} (h : HvSz w Hb H m S) (hb : Below w.heap.size w w') : HvSz w' Hb H m S :=
  ⟨h.cells.congr (hb.block _ (lt_of_some h.cells)), h.len, fun k T hk => by
    obtain ⟨g, h1, h3⟩ := h.at_ k T hk
    exact ⟨g, h1, h3.congr (hb.block _ (lt_of_some h3))⟩⟩
theorem HvSz.push {w : World} {Hb m g : Nat} {H : List Value} {S : List (List Sb)} {T : List Sb} (h : HvSz w Hb H m S) (hk : S.length < m) (hr : RowIs w g (fun j => (hvs 0 T).getD j 0) T.length) :
    HvSz (w.setCell ⟨Hb, S.length, none⟩ (.slice (some ⟨g, 0, none⟩) T.length T.length)) Hb (H.set S.length (.slice (some ⟨g, 0, none⟩) T.length T.length)) m (S ++ [T]) := by
  have key : ∀ {x : Nat} {f : Nat → Nat} {m : Nat} (v : Value), RowIs w x f m → RowIs (w.setCell ⟨Hb, S.length, none⟩ v) x f m := fun v hr =>
    hr.congr (Below.heap_setCell _ _ _ _ (rows_apart (L := rowCells _ _) (t := 23) hr h.cells (by decide)))
  refine ⟨h.cells.set _ _, by simpa using h.len, fun k U hU => ?_⟩
  rcases Nat.lt_trichotomy k S.length with hlt | rfl | hgt
  · rw [List.getElem?_append_left hlt] at hU
    obtain ⟨g', e1, e3⟩ := h.at_ k U hU
    exact ⟨g', by rw [List.getElem?_set_ne (by omega)]; exact e1, key _ e3⟩
  · simp at hU
    subst hU
    exact ⟨g, List.getElem?_set_self (by rw [h.len]; exact hk), key _ hr⟩
  · rw [List.getElem?_eq_none (by simp; omega)] at hU
    simp at hU

theorem six (w : World) (o1 o2 o3 o4 o5 o6 : Obj) : ∀ W, W = (((((w.alloc o1).alloc o2).alloc o3).alloc o4).alloc o5).alloc o6 →
    W.heap.size = w.heap.size + 1 + 1 + 1 + 1 + 1 + 1 ∧ W.heap[w.heap.size]? = some o1 ∧ W.heap[w.heap.size + 1]? = some o2 ∧ W.heap[w.heap.size + 1 + 1]? = some o3 ∧ W.heap[w.heap.size + 1 + 1 + 1]? = some o4 ∧ W.heap[w.heap.size + 1 + 1 + 1 + 1]? = some o5 ∧ W.heap[w.heap.size + 1 + 1 + 1 + 1 + 1]? = some o6 := by
  rintro W rfl
  refine ⟨by simp, ?_, ?_, ?_, ?_, ?_, ?_⟩
  · rw [Below.heap_alloc _ _ _ (by simp <;> omega), Below.heap_alloc _ _ _ (by simp <;> omega), Below.heap_alloc _ _ _ (by simp <;> omega), Below.heap_alloc _ _ _ (by simp <;> omega), Below.heap_alloc _ _ _ (by simp <;> omega)]
    exact heap_alloc_new w o1
  · rw [Below.heap_alloc _ _ _ (by simp <;> omega), Below.heap_alloc _ _ _ (by simp <;> omega), Below.heap_alloc _ _ _ (by simp <;> omega), Below.heap_alloc _ _ _ (by simp <;> omega)]
    simpa using heap_alloc_new (w.alloc o1) o2
  · rw [Below.heap_alloc _ _ _ (by simp <;> omega), Below.heap_alloc _ _ _ (by simp <;> omega), Below.heap_alloc _ _ _ (by simp <;> omega)]
    simpa using heap_alloc_new ((w.alloc o1).alloc o2) o3
  · rw [Below.heap_alloc _ _ _ (by simp <;> omega), Below.heap_alloc _ _ _ (by simp <;> omega)]
    simpa using heap_alloc_new (((w.alloc o1).alloc o2).alloc o3) o4
  · rw [Below.heap_alloc _ _ _ (by simp <;> omega)]
    simpa using heap_alloc_new ((((w.alloc o1).alloc o2).alloc o3).alloc o4) o5
  · simpa using heap_alloc_new (((((w.alloc o1).alloc o2).alloc o3).alloc o4).alloc o5) o6
theorem next_get {n p thr over : Nat} {v : Vt} {S : List (List Sb)} {k : Nat} (hk : k < p + 2) : (nextS n p thr over v S)[k]? = some (nextK n p thr over v S k) := by
  simp [nextS, hk]
theorem take_snoc {α : Type} {l : List α} {k : Nat} {x : α} (h : l[k]? = some x) : l.take (k + 1) = l.take k ++ [x] := by
  rw [List.take_add_one, h]
  rfl
/-- what is known of a subset of the first p voters -/
def Good (thr over : Nat) (s : Sb) : Prop := s.m < 131072 ∧ s.w ≤ thr ∧ s.c ≤ over
theorem good_of {n thr over : Nat} {ps : List Vt} {S : List (List Sb)} (h : Lists n thr over ps S) (hp : ps.length ≤ n) (hn : n ≤ 17) {k : Nat} {T : List Sb} (hk : S[k]? = some T) : T.length ≤ 131072 ∧ ∀ s ∈ T, Good thr over s := by
  obtain ⟨_, h2, h3⟩ := h.2 k T hk
  refine ⟨Nat.le_trans h2 (Nat.pow_le_pow_right (n := 2) (by omega) (show ps.length ≤ 17 by omega)), fun s hs => ?_⟩
  obtain ⟨m, h4, h5, rfl⟩ := (h3 s).1 hs
  refine ⟨?_, Nat.min_le_right _ _, Nat.min_le_right _ _⟩
  show val m * 2 ^ (n - m.length) < 131072
  have h6 := val_lt m
  calc val m * 2 ^ (n - m.length) < 2 ^ m.length * 2 ^ (n - m.length) := Nat.mul_lt_mul_of_pos_right h6 (Nat.two_pow_pos _)
    _ = 2 ^ n := by rw [← Nat.pow_add]; congr 1; omega
    _ ≤ 2 ^ 17 := Nat.pow_le_pow_right (by omega) hn
    _ = 131072 := by decide

/-- the cells of newHalf's own variables -/
structure Hf (w : World) (b4 b5 b6 b7 b8 Hb n thr over N : Nat) (vsl : Value) (Lb m : Nat) : Prop where
  c4 : w.heap[b4]? = some (.cells #[.int .u64 thr] 23 (0, 0))
  c5 : w.heap[b5]? = some (.cells #[.int .u64 over] 23 (0, 0))
  c6 : w.heap[b6]? = some (.cells #[.slice none 0 0, .slice none 0 0, .slice none 0 0] 97 (0, 0))
  c7 : w.heap[b7]? = some (.cells #[.int .i64 n] 3 (0, 0))
  c8 : w.heap[b8]? = some (.cells #[vsl, .slice (some ⟨Lb, 0, none⟩) m m, .slice (some ⟨Hb, 0, none⟩) N N] 97 (0, 0))
theorem Hf.below {w w' : World} {b4 b5 b6 b7 b8 Hb n thr over N : Nat} {vsl : Value} {Lb m : Nat} (h : Hf w b4 b5 b6 b7 b8 Hb n thr over N vsl Lb m) (hb : Below w.heap.size w w') : Hf w' b4 b5 b6 b7 b8 Hb n thr over N vsl Lb m :=
  ⟨(hb.block _ (lt_of_some h.c4)).trans h.c4, (hb.block _ (lt_of_some h.c5)).trans h.c5, (hb.block _ (lt_of_some h.c6)).trans h.c6, (hb.block _ (lt_of_some h.c7)).trans h.c7, (hb.block _ (lt_of_some h.c8)).trans h.c8⟩
theorem at_one {w : World} {x : Nat} {t : TypeId} {u0 : Value} (k : w.heap[x]? = some (.cells #[u0] t (0, 0))) : w.cell? ⟨x, 0, none⟩ = some u0 ∧ w.frozen? ⟨x, 0, none⟩ = false := by
  simp [World.cell?, World.frozen?, k]
theorem fz_three {w : World} {x : Nat} {t : TypeId} {u0 u1 u2 : Value} (k : w.heap[x]? = some (.cells #[u0, u1, u2] t (0, 0))) : w.frozen? ⟨x, 0, none⟩ = false ∧ w.frozen? ⟨x, 1, none⟩ = false ∧ w.frozen? ⟨x, 2, none⟩ = false := by
  simp [World.frozen?, k]
/-- how far the merge has come -/
def MRel (wm : World) (f : Sb → Sb) (C : Nat) (TT : List Sb) (thr over : Nat) (xv yv mv : Value) (wq : World) : Prop :=
  ∃ (X' Y' M : List Sb) (g cp : Nat), SlR wm xv X' ∧ SlR wm yv Y' ∧ mv = .slice (some ⟨g, 0, none⟩) M.length cp ∧ wq.ownsRow wm.heap.size 101 3 mv M.length (sbCells M) ∧ M ++ mrg X' (Y'.map f) = TT ∧ (∀ s ∈ Y', Good thr over s) ∧ M.length + X'.length + Y'.length = C ∧ Below wm.heap.size wm wq
/-- the tail of a slice: where nothing is left the model leaves the pointer where it was -/
theorem SlR.tail {w : World} {g o cp lx : Nat} {X : List Sb} (h : SlR w (.slice (some ⟨g, o + 3, none⟩) X.length (cp - 1)) X) (hl : lx = X.length + 1) (hc : (lx : Int) ≤ (cp : Int)) : SlR w (.slice (some ⟨g, o + 3, none⟩) (lx - 1) (cp - 1)) X ∧ (cp = 1 → SlR w (.slice (some ⟨g, o, none⟩) (lx - 1) 0) X) := by
  subst hl
  refine ⟨by simpa using h, fun e => ?_⟩
  obtain rfl : X = [] := List.eq_nil_of_length_eq_zero (by omega)
  exact ⟨_, _, rfl, fun h => absurd rfl h⟩
theorem MRel.goX {wm w5 : World} {f : Sb → Sb} {C lx g5 cap5 thr over : Nat} {TT X' Y' M : List Sb} {s : Sb} {xv yv : Value} (hX : SlR wm xv X') (hY : SlR wm yv Y') (hk : takeX f (s :: X') Y' = true) (hm : M ++ mrg (s :: X') (Y'.map f) = TT) (hg : ∀ s ∈ Y', Good thr over s) (hs : M.length + lx + Y'.length = C) (hl : lx = X'.length + 1)
    (ho : w5.ownsRow wm.heap.size 101 3 (.slice (some ⟨g5, 0, none⟩) (M.length + 1) cap5) (M.length + 1) (sbCells M ++ [.int .u64 (s.m : Nat), .int .u64 (s.w : Nat), .int .u64 (s.c : Nat)])) (hb : Below wm.heap.size wm w5) : MRel wm f C TT thr over xv yv (.slice (some ⟨g5, 0, none⟩) (M.length + 1) cap5) w5 := by
  refine ⟨X', Y', M ++ [s], g5, cap5, hX, hY, by simp, ?_, ?_, hg, by simp; omega, hb⟩
  · rw [sbCells_append, List.length_append]
    exact ho
  · rw [← hm, mrg_X hk]
    simp
theorem MRel.goY {wm w5 : World} {f : Sb → Sb} {C ly g5 cap5 thr over : Nat} {TT X' Y' M : List Sb} {t : Sb} {xv yv : Value} (hX : SlR wm xv X') (hY : SlR wm yv Y') (hk : takeX f X' (t :: Y') = false) (hm : M ++ mrg X' ((t :: Y').map f) = TT) (hg : ∀ s ∈ t :: Y', Good thr over s) (hs : M.length + X'.length + ly = C) (hl : ly = Y'.length + 1)
    (ho : w5.ownsRow wm.heap.size 101 3 (.slice (some ⟨g5, 0, none⟩) (M.length + 1) cap5) (M.length + 1) (sbCells M ++ [.int .u64 ((f t).m : Nat), .int .u64 ((f t).w : Nat), .int .u64 ((f t).c : Nat)])) (hb : Below wm.heap.size wm w5) : MRel wm f C TT thr over xv yv (.slice (some ⟨g5, 0, none⟩) (M.length + 1) cap5) w5 := by
  refine ⟨X', Y', M ++ [f t], g5, cap5, hX, hY, by simp, ?_, ?_, fun s hs => hg s (List.mem_cons_of_mem _ hs), by simp; omega, hb⟩
  · rw [sbCells_append, List.length_append]
    exact ho
  · rw [← hm, mrg_Y hk]
    simp
theorem MRel.opened {wm wq : World} {f : Sb → Sb} {C thr over : Nat} {TT : List Sb} {xv yv mv : Value} (h : MRel wm f C TT thr over xv yv mv wq) :
    ∃ (X' Y' M : List Sb) (g cp : Nat), SlR wm xv X' ∧ SlR wm yv Y' ∧ mv = .slice (some ⟨g, 0, none⟩) M.length cp ∧ wq.ownsRow wm.heap.size 101 3 mv M.length (sbCells M) ∧ M ++ mrg X' (Y'.map f) = TT ∧ (∀ s ∈ Y', Good thr over s) ∧ M.length + X'.length + Y'.length = C ∧ Below wm.heap.size wm wq := h
theorem MRel.start {wm w3 : World} {f : Sb → Sb} {C thr over : Nat} {X Y : List Sb} {xv yv : Value} {g cp : Nat} (hX : SlR wm xv X) (hY : SlR wm yv Y) (ho : w3.ownsRow wm.heap.size 101 3 (.slice (some ⟨g, 0, none⟩) 0 cp) 0 []) (hg : ∀ s ∈ Y, Good thr over s) (hs : C = X.length + Y.length) (hb : Below wm.heap.size wm w3) : MRel wm f C (mrg X (Y.map f)) thr over xv yv (.slice (some ⟨g, 0, none⟩) 0 cp) w3 :=
  ⟨X, Y, [], g, cp, hX, hY, rfl, ho, rfl, hg, by simp; omega, hb⟩
attribute [irreducible] MRel
theorem own_below {w w' : World} {B : Nat} {e : TypeId} {size n : Nat} {v : Value} {xs : List Value} (h : w.ownsRow B e size v n xs) (hb : Below w.heap.size w w') : w'.ownsRow B e size v n xs := own_congr h (fun k hk => by
  obtain ⟨cur, hc⟩ := own_block h hk
  exact hb.block _ (lt_of_some hc))
theorem own_drew {w : World} {B : Nat} {e : TypeId} {size n : Nat} {v : Value} {xs : List Value} (h : w.ownsRow B e size v n xs) : w.drew.ownsRow B e size v n xs := own_congr h (fun _ _ => rfl)

theorem Hf.set {w : World} {b4 b5 b6 b7 b8 Hb n thr over N Lb m Nb P2 ln cap : Nat} {a : Addr} (h : Hf w b4 b5 b6 b7 b8 Hb n thr over N (.slice (some a) ln cap) Lb m) : Hf (w.setCell ⟨b8, 1, none⟩ (.slice (some ⟨Nb, 0, none⟩) P2 P2)) b4 b5 b6 b7 b8 Hb n thr over N (.slice (some a) ln cap) Nb P2 := by
  have ne : ∀ {x : Nat} {A : Array Value} {t : TypeId}, w.heap[x]? = some (.cells A t (0, 0)) → t ≠ 97 → x ≠ b8 := fun hx ht e => by
    subst e
    rw [h.c8] at hx
    simp only [Option.some.injEq, Obj.cells.injEq] at hx
    exact ht hx.2.1.symm
  have ne6 : b6 ≠ b8 := fun e => by
    have h1 := h.c6
    rw [e, h.c8] at h1
    simp at h1
  refine ⟨(Below.heap_setCell _ _ _ _ (ne h.c4 (by decide))).trans h.c4, (Below.heap_setCell _ _ _ _ (ne h.c5 (by decide))).trans h.c5, (Below.heap_setCell _ _ _ _ ne6).trans h.c6, (Below.heap_setCell _ _ _ _ (ne h.c7 (by decide))).trans h.c7, ?_⟩
  rw [setCell_eq_setRow _ _ _ _ _ _ _ h.c8, setRow_heap _ _ _ _ _ _ h.c8]
  rfl
/-- the block Hb is written -/
theorem Hf.far {w : World} {b4 b5 b6 b7 b8 Hb n thr over N Lb m q : Nat} {vsl : Value} {H : List Value} (h : Hf w b4 b5 b6 b7 b8 Hb n thr over N vsl Lb m) (hH : CellsAre w Hb H 64) (v : Value) : Hf (w.setCell ⟨Hb, q, none⟩ v) b4 b5 b6 b7 b8 Hb n thr over N vsl Lb m := by
  have ne : ∀ {x : Nat} {A : Array Value} {t : TypeId}, w.heap[x]? = some (.cells A t (0, 0)) → t ≠ 64 → x ≠ Hb := fun hx ht e => by
    subst e
    unfold CellsAre at hH
    rw [hH] at hx
    simp only [Option.some.injEq, Obj.cells.injEq] at hx
    exact ht hx.2.1.symm
  exact ⟨(Below.heap_setCell _ _ _ _ (ne h.c4 (by decide))).trans h.c4, (Below.heap_setCell _ _ _ _ (ne h.c5 (by decide))).trans h.c5, (Below.heap_setCell _ _ _ _ (ne h.c6 (by decide))).trans h.c6, (Below.heap_setCell _ _ _ _ (ne h.c7 (by decide))).trans h.c7, (Below.heap_setCell _ _ _ _ (ne h.c8 (by decide))).trans h.c8⟩

/-- a row that is filled up to place j -/
def RowPart (w : World) (g : Nat) (f : Nat → Nat) (j n : Nat) : Prop := ∃ Z : List Value, w.heap[g]? = some (.cells Z.toArray 23 (0, 0)) ∧ Z.length = n ∧ ∀ i, i < j → Z[i]? = some (.int .u64 (f i : Nat))
theorem RowPart.cell {w : World} {g j n i : Nat} {f : Nat → Nat} (h : RowPart w g f j n) (hi : i < n) : ∃ z, w.cell? ⟨g, i, none⟩ = some z ∧ w.frozen? ⟨g, i, none⟩ = false := by
  obtain ⟨Z, h1, h2, h3⟩ := h
  exact ⟨Z[i], CellsAre.cell (t := 23) (L := Z) h1 (List.getElem?_eq_getElem (by omega))⟩
theorem RowPart.set {w : World} {g j n x : Nat} {f : Nat → Nat} (h : RowPart w g f j n) (hj : j < n) (hx : f j = x) : RowPart (w.setCell ⟨g, j, none⟩ (.int .u64 (x : Nat))) g f (j + 1) n := by
  obtain ⟨Z, h1, h2, h3⟩ := h
  refine ⟨Z.set j (.int .u64 (x : Nat)), CellsAre.set (t := 23) (L := Z) h1 j _, by simpa using h2, fun i hi => ?_⟩
  by_cases e : i = j
  · subst e
    rw [List.getElem?_set_self (by omega), hx]
  · rw [List.getElem?_set_ne (Ne.symm e)]
    exact h3 i (by omega)
theorem RowPart.done {w : World} {g n : Nat} {f : Nat → Nat} (h : RowPart w g f n n) : RowIs w g f n := by
  obtain ⟨Z, h1, h2, h3⟩ := h
  have : Z = rowCells f n := by
    apply List.ext_getElem?
    intro i
    by_cases hi : i < n
    · rw [h3 i hi, rowCells_get _ _ _ hi]
    · rw [List.getElem?_eq_none (by omega), List.getElem?_eq_none (by rw [rowCells_length]; omega)]
  rw [this] at h1
  exact h1
/-- the greatest weight among some, and a -/
def mxw : Nat → List Sb → Nat
  | a, [] => a
  | a, s :: T => mxw (max a s.w) T
theorem mxw_snoc : ∀ (T : List Sb) (a : Nat) (s : Sb), mxw a (T ++ [s]) = max (mxw a T) s.w
  | [], a, s => rfl
  | t :: T, a, s => mxw_snoc T _ s
theorem mxw_take {T : List Sb} {j : Nat} {s : Sb} (h : T[j]? = some s) (a : Nat) : mxw a (T.take (j + 1)) = max (mxw a (T.take j)) s.w := by
  rw [take_snoc h, mxw_snoc]
theorem hvs_get : ∀ (T : List Sb) (a j : Nat), j < T.length → (hvs a T).getD j 0 = mxw a (T.take (j + 1))
  | [], a, j, h => by simp at h
  | s :: T, a, 0, h => by simp [hvs, mxw]
  | s :: T, a, j + 1, h => by
    have := hvs_get T (max a s.w) j (by simpa using h)
    simpa [hvs, mxw] using this

theorem three_set {w : World} {x : Nat} {t : TypeId} {u0 u1 u2 : Value} (v0 v1 v2 : Value) (h : w.heap[x]? = some (.cells #[u0, u1, u2] t (0, 0))) :
    (((w.setCell ⟨x, 0, none⟩ v0).setCell ⟨x, 1, none⟩ v1).setCell ⟨x, 2, none⟩ v2).heap[x]? = some (.cells #[v0, v1, v2] t (0, 0)) ∧ ∀ y, y ≠ x → (((w.setCell ⟨x, 0, none⟩ v0).setCell ⟨x, 1, none⟩ v1).setCell ⟨x, 2, none⟩ v2).heap[y]? = w.heap[y]? := by
  have h1 : (w.setCell ⟨x, 0, none⟩ v0).heap[x]? = some (.cells #[v0, u1, u2] t (0, 0)) := by
    rw [setCell_eq_setRow _ _ _ _ _ _ _ h, setRow_heap _ _ _ _ _ _ h]; rfl
  have h2 : ((w.setCell ⟨x, 0, none⟩ v0).setCell ⟨x, 1, none⟩ v1).heap[x]? = some (.cells #[v0, v1, u2] t (0, 0)) := by
    rw [setCell_eq_setRow _ _ _ _ _ _ _ h1, setRow_heap _ _ _ _ _ _ h1]; rfl
  refine ⟨?_, fun y hy => ?_⟩
  · rw [setCell_eq_setRow _ _ _ _ _ _ _ h2, setRow_heap _ _ _ _ _ _ h2]; rfl
  · rw [Below.heap_setCell _ _ _ _ hy, Below.heap_setCell _ _ _ _ hy, Below.heap_setCell _ _ _ _ hy]
theorem bySz_off {w w' : World} {Lb m x : Nat} {L : List Value} {S : List (List Sb)} {A : Array Value} (h : BySz w Lb L m S) (hx : w.heap[x]? = some (.cells A 97 (0, 0))) (e : ∀ y, y ≠ x → w'.heap[y]? = w.heap[y]?) : BySz w' Lb L m S :=
  ⟨h.cells.congr (e _ (rows_apart (L' := A.toList) h.cells (by simpa [CellsAre] using hx) (by decide))), h.len, fun k T hk => by
    obtain ⟨g, cp, e1, e2, e3⟩ := h.at_ k T hk
    exact ⟨g, cp, e1, e2, e3.congr (e _ (e3.apart hx (by decide)))⟩⟩
theorem HvSz.off {w w' : World} {Hb m x : Nat} {H : List Value} {S : List (List Sb)} {A : Array Value} (h : HvSz w Hb H m S) (hx : w.heap[x]? = some (.cells A 97 (0, 0))) (e : ∀ y, y ≠ x → w'.heap[y]? = w.heap[y]?) : HvSz w' Hb H m S :=
  ⟨h.cells.congr (e _ (rows_apart (L' := A.toList) h.cells (by simpa [CellsAre] using hx) (by decide))), h.len, fun k T hk => by
    obtain ⟨g, e1, e3⟩ := h.at_ k T hk
    exact ⟨g, e1, e3.congr (e _ (rows_apart (L := rowCells _ _) (t := 23) (L' := A.toList) e3 (by simpa [CellsAre] using hx) (by decide)))⟩⟩
theorem fld101 : ∀ (x y z : Int) (w : World), (Instr.field 101 (.agg #[.int .u64 x, .int .u64 y, .int .u64 z]) 2).run Try.prog w = .ok (.int .u64 z) w := fun _ _ _ _ => by kernel_rfl

set_option maxRecDepth 100000 in
set_option maxHeartbeats 20000000 in
theorem half50 (b o n cap thr over : Nat) (vs : List Vt) (hvs : vs.length = n) (hn : n ≤ 17) (hthr : U thr) (hover : U over)
    (hpos : ∀ v ∈ vs, U v.w ∧ U v.c) (w : World) (hb : b < w.heap.size) (hcell : ∀ i v, vs[i]? = some v → VtAt w b o i v) :
    Calls Try.prog 50 #[.slice (some ⟨b, o, none⟩) n cap, .int .u64 thr, .int .u64 over] w
      fun e w' => ∃ Lb Hb L H S, e = .returned (.agg #[.slice (some ⟨b, o, none⟩) n cap, .slice (some ⟨Lb, 0, none⟩) (n + 1 : Nat) (n + 1 : Nat), .slice (some ⟨Hb, 0, none⟩) (n + 1 : Nat) (n + 1 : Nat)]) ∧ Lists n thr over vs S ∧ BySz w' Lb L (n + 1) S ∧ HvSz w' Hb H (n + 1) S ∧ Below w.heap.size w w' := by
  obtain ⟨i64, hi64, hz640, hz641, hz642⟩ := info_parts info64
  obtain ⟨i99, hi99, hz990, hz991, hz992⟩ := info_parts info99
  obtain ⟨i101, hi101, hz1010, hz1011, hz1012⟩ := info_parts info101
  obtain ⟨i23, hi23, hz230, hz231, hz232⟩ := info_parts info23
  have HC : Hid (∀ i v, vs[i]? = some v → VtAt w b o i v) := hcell
  have HV : Hid (vs.length = n) := hvs
  have HP : Hid (∀ v ∈ vs, U v.w ∧ U v.c) := hpos
  clear hcell hvs hpos
  obtain ⟨N, hN⟩ : ∃ N, N = n + 1 := ⟨_, rfl⟩
  have eN : (n : Int) + 1 = (N : Int) := by omega
  have HN : Hid (N = n + 1) := hN
  have hN1 : n < N := by omega
  have hN2 : N ≤ 18 := by omega
  clear hN
  go_enter Try.func50, Try.ntmps50
  go_wp2_with (first | (at_make; refine wpList_make_full _ rfl _ _ 94 rfl (w.heap.size + 6) 64 i64 (.slice none 0 0) 1 Try.underlying94 hi64 hz640 hz641 .i64 .i64 _ _ N rfl rfl rfl rfl (by rw [hz642]; omega) (by unfold maxLen; omega) (by simp) ?_; intro w1 hown1 hgrow1) | fail)
  obtain ⟨WA, hWA⟩ : ∃ WA, WA = (((((w.alloc (.cells #[.int .u64 thr] 23)).alloc (.cells #[.int .u64 over] 23)).alloc (.cells #[.slice none 0 0, .slice none 0 0, .slice none 0 0] 97)).alloc (.cells #[.int .i64 n] 3)).alloc (.cells #[.int .u64 0, .int .u64 0, .int .u64 0] 101)).alloc (.cells #[.slice (some ⟨w.heap.size + 1 + 1 + 1 + 1, 0, none⟩) 1 1] 99) := ⟨_, rfl⟩
  rw [← hWA] at hown1 hgrow1
  obtain ⟨hs, k4, k5, k6, k7, kS, kL⟩ := six w _ _ _ _ _ _ WA hWA
  have hbA : Below w.heap.size w WA := by
    rw [hWA]
    exact ((((((Below.refl _ _).alloc (Nat.le_refl _) _).alloc (by simp) _).alloc (by simp; omega) _).alloc (by simp; omega) _).alloc (by simp; omega) _).alloc (by simp; omega) _
  obtain ⟨Zh, hZh⟩ : ∃ Z, Z = (madeCells (Value.cells (.slice none 0 0)) (N * 1)).toList := ⟨_, rfl⟩
  rw [← hZh, hs] at hown1
  obtain ⟨hZl, kH⟩ := made_row hown1
  have hb1 : Below WA.heap.size WA w1 := grown_below hgrow1 (Nat.le_refl _) (by simp)
  obtain ⟨W0, hW0⟩ : ∃ W0, W0 = w1.alloc (.cells #[.slice (some ⟨b, o, none⟩) n cap, .slice (some ⟨w.heap.size + 1 + 1 + 1 + 1 + 1, 0, none⟩) 1 1, .slice (some ⟨w.heap.size + 1 + 1 + 1 + 1 + 1 + 1, 0, none⟩) N N] 97) := ⟨_, rfl⟩
  rw [← hW0]
  have hb2 : Below w1.heap.size w1 W0 := by rw [hW0]; exact (Below.refl _ _).alloc (Nat.le_refl _) _
  have k8 : W0.heap[w1.heap.size]? = some (.cells #[.slice (some ⟨b, o, none⟩) n cap, .slice (some ⟨w.heap.size + 1 + 1 + 1 + 1 + 1, 0, none⟩) 1 1, .slice (some ⟨w.heap.size + 1 + 1 + 1 + 1 + 1 + 1, 0, none⟩) N N] 97 (0, 0)) := by rw [hW0]; exact heap_alloc_new _ _
  have hb3 : Below WA.heap.size WA W0 := hb1.trans (hb2.mono hb1.size)
  have HB0 : Hid (Below w.heap.size w W0) := hbA.trans (hb3.mono hbA.size)
  have HF0 : Hid (Hf W0 w.heap.size (w.heap.size + 1) (w.heap.size + 1 + 1) (w.heap.size + 1 + 1 + 1) w1.heap.size (w.heap.size + 1 + 1 + 1 + 1 + 1 + 1) n thr over N (.slice (some ⟨b, o, none⟩) n cap) (w.heap.size + 1 + 1 + 1 + 1 + 1) 1) :=
    ⟨(hb3.block _ (lt_of_some k4)).trans k4, (hb3.block _ (lt_of_some k5)).trans k5, (hb3.block _ (lt_of_some k6)).trans k6, (hb3.block _ (lt_of_some k7)).trans k7, k8⟩
  have HH0 : Hid (CellsAre W0 (w.heap.size + 1 + 1 + 1 + 1 + 1 + 1) Zh 64) := (hb2.block _ (lt_of_some kH)).trans kH
  have HS0 : Hid (BySz W0 (w.heap.size + 1 + 1 + 1 + 1 + 1) [.slice (some ⟨w.heap.size + 1 + 1 + 1 + 1, 0, none⟩) 1 1] (0 + 1) [[⟨0, 0, 0⟩]]) := by
    refine ⟨(hb3.block _ (lt_of_some kL)).trans kL, rfl, fun k T hk => ?_⟩
    cases k with
    | succ k => simp at hk
    | zero =>
      simp at hk
      subst hk
      refine ⟨_, 1, rfl, Nat.le_refl _, _, (hb3.block _ (lt_of_some kS)).trans kS, fun i s hi => ?_⟩
      cases i with
      | succ i => simp at hi
      | zero =>
        simp at hi
        subst hi
        simp
  have HL0 : Hid (Lists n thr over (vs.take 0) [[⟨0, 0, 0⟩]]) := lists_nil n thr over
  have HZl : Hid (Zh.length = N) := hZl
  have hlt0 := HB0.out.size
  have HBH : Hid (w.heap.size ≤ w.heap.size + 1 + 1 + 1 + 1 + 1 + 1) := by show _ ≤ _; omega
  have HB6 : Hid (w.heap.size ≤ w.heap.size + 1 + 1) := by show _ ≤ _; omega
  have HB8 : Hid (w.heap.size ≤ w1.heap.size) := by
    show _ ≤ _
    have h1 := hbA.size
    have h2 := hb1.size
    omega
  clear hown1 hgrow1 hs k4 k5 k6 k7 kS kL hbA hZh hZl kH hb1 hb2 k8 hb3 hWA hW0
  generalize w.heap.size + 1 + 1 + 1 + 1 + 1 + 1 = Hb at *
  generalize w.heap.size + 1 + 1 + 1 + 1 + 1 = Lb0 at *
  generalize w.heap.size + 1 + 1 + 1 + 1 = Sb0 at *
  generalize w.heap.size + 1 + 1 + 1 = b7 at *
  generalize w.heap.size + 1 + 1 = b6 at *
  generalize w.heap.size + 1 = b5 at *
  generalize w1.heap.size = b8 at *
  obtain ⟨b4, hb4⟩ : ∃ b4, b4 = w.heap.size := ⟨_, rfl⟩
  have HB4 : Hid (b4 = w.heap.size) := hb4
  rw [← hb4] at HF0 ⊢
  clear hb4
  go_loopw [35] (fun iv wq => ∃ (p Lb : Nat) (L : List Value) (S : List (List Sb)), p ≤ n ∧ iv = .int .i64 p ∧ Hf wq b4 b5 b6 b7 b8 Hb n thr over N (.slice (some ⟨b, o, none⟩) n cap) Lb (p + 1) ∧ BySz wq Lb L (p + 1) S ∧ CellsAre wq Hb Zh 64 ∧ Lists n thr over (vs.take p) S ∧ Below w.heap.size w wq) (fun iv _ => n - (intOf iv).toNat)
  case atStart => exact ⟨0, _, _, _, Nat.zero_le _, by go_num, HF0.out, HS0.out, HH0.out, HL0.out, HB0.out⟩
  case round =>
    clear HB0 HF0 HS0 HH0 HL0
    obtain ⟨p, Lb, L, S, hp, rfl, hF, hS, hH, hLi, hbel⟩ := hrel
    have HF : Hid (Hf wr b4 b5 b6 b7 b8 Hb n thr over N (.slice (some ⟨b, o, none⟩) n cap) Lb (p + 1)) := hF
    have HS : Hid (BySz wr Lb L (p + 1) S) := hS
    have HH : Hid (CellsAre wr Hb Zh 64) := hH
    have HL : Hid (Lists n thr over (vs.take p) S) := hLi
    have HB : Hid (Below w.heap.size w wr) := hbel
    clear hF hS hH hLi hbel
    obtain ⟨wo, rfl⟩ : ∃ x : World, x = wr := ⟨_, rfl⟩
    by_cases hlt : p < n
    · obtain ⟨v, hv⟩ : ∃ v, vs[p]? = some v := ⟨_, List.getElem?_eq_getElem (by rw [HV.out]; exact hlt)⟩
      obtain ⟨d0, d1, d2⟩ := (HC.out p v hv).below HB.out hb
      obtain ⟨p1, p2⟩ := HP.out v (List.mem_of_getElem? hv)
      have HVv : Hid (vs[p]? = some v) := hv
      obtain ⟨P2, hP2⟩ : ∃ P2, P2 = p + 2 := ⟨_, rfl⟩
      have eP : (p : Int) + 2 = (P2 : Int) := by omega
      have HP2 : Hid (P2 = p + 2) := hP2
      have hP3 : P2 ≤ 19 := by omega
      have hP4 : p < P2 := by omega
      clear hv hP2
      go_upto_region 8 with (first | (at_make; refine wpList_make_full _ rfl _ _ 95 rfl w.heap.size 99 i99 (.slice none 0 0) 1 Try.underlying95 hi99 hz990 hz991 .i64 .i64 _ _ P2 rfl rfl rfl rfl (by rw [hz992]; omega) (by unfold maxLen; omega) (by simp; have := HB.out.size; omega) ?_; intro w2 hown2 hgrow2) | fail)
      obtain ⟨W2, hW2⟩ : ∃ W2, W2 = (wo.alloc (.cells #[.int .i64 p] 3)).alloc (.cells #[.string v.id, .int .u64 v.w, .int .u64 v.c] 86) := ⟨_, rfl⟩
      rw [← hW2] at hown2 hgrow2
      have hs2 : W2.heap.size = wo.heap.size + 1 + 1 := by rw [hW2]; simp
      have t9 : W2.heap[wo.heap.size]? = some (.cells #[.int .i64 p] 3 (0, 0)) := by rw [hW2, Below.heap_alloc _ _ _ (by simp)]; exact heap_alloc_new _ _
      have t10 : W2.heap[wo.heap.size + 1]? = some (.cells #[.string v.id, .int .u64 v.w, .int .u64 v.c] 86 (0, 0)) := by rw [hW2]; exact new2 _ _ _
      have hbW : Below wo.heap.size wo W2 := by rw [hW2]; exact ((Below.refl _ _).alloc (Nat.le_refl _) _).alloc (by simp) _
      obtain ⟨Zn, hZn⟩ : ∃ Z, Z = (madeCells (Value.cells (.slice none 0 0)) (P2 * 1)).toList := ⟨_, rfl⟩
      rw [← hZn, hs2] at hown2
      obtain ⟨hZl, kN⟩ := made_row hown2
      have HT9 : Hid (W2.heap[wo.heap.size]? = some (.cells #[.int .i64 p] 3 (0, 0))) := t9
      have HT10 : Hid (W2.heap[wo.heap.size + 1]? = some (.cells #[.string v.id, .int .u64 v.w, .int .u64 v.c] 86 (0, 0))) := t10
      have HF2 : Hid (Hf W2 b4 b5 b6 b7 b8 Hb n thr over N (.slice (some ⟨b, o, none⟩) n cap) Lb (p + 1)) := HF.out.below hbW
      have HS2 : Hid (BySz W2 Lb L (p + 1) S) := HS.out.below hbW
      have HH2 : Hid (CellsAre W2 Hb Zh 64) := HH.out.congr (hbW.block _ (lt_of_some HH.out))
      have HB2 : Hid (Below w.heap.size w W2) := HB.out.trans (hbW.mono HB.out.size)
      have HN0 : Hid (BySz w2 (wo.heap.size + 1 + 1) Zn P2 ((nextS n p thr over v S).take 0)) := ⟨kN, hZl, fun k T hk => by simp at hk⟩
      have HG0 : Hid (Below W2.heap.size W2 w2) := grown_below hgrow2 (Nat.le_refl _) (by simp)
      have HNb : Hid (wo.heap.size + 1 + 1 = W2.heap.size) := hs2.symm
      clear hown2 hgrow2 hW2 hs2 t9 t10 hbW hZn hZl kN HF HS HH HB d0 d1 d2
      generalize wo.heap.size + 1 + 1 = Nb at *
      generalize wo.heap.size + 1 = b10 at *
      generalize wo.heap.size = b9 at *
      go_wp2_with fail
      go_loopw [46] (fun kv wq => ∃ (k : Nat) (Ln : List Value), k ≤ P2 ∧ kv = .int .i64 k ∧ BySz wq Nb Ln P2 ((nextS n p thr over v S).take k) ∧ Below W2.heap.size W2 wq) (fun kv _ => P2 - (intOf kv).toNat)
      case atStart => exact ⟨0, _, Nat.zero_le _, by go_num, HN0.out, HG0.out⟩
      case round =>
        clear HN0 HG0
        obtain ⟨k, Ln, hk, rfl, hN, hbel⟩ := hrel
        have HNX : Hid (BySz wr Nb Ln P2 ((nextS n p thr over v S).take k)) := hN
        have HBL : Hid (Below W2.heap.size W2 wr) := hbel
        have hF3 := HF2.out.below hbel
        have hS3 := HS2.out.below hbel
        have t9 := (hbel.block _ (lt_of_some HT9.out)).trans HT9.out
        have t10 := (hbel.block _ (lt_of_some HT10.out)).trans HT10.out
        obtain ⟨c9, f9⟩ := at_one t9
        have HT9w : Hid (wr.heap[b9]? = some (.cells #[.int .i64 p] 3 (0, 0))) := t9
        have HT10w : Hid (wr.heap[b10]? = some (.cells #[.string v.id, .int .u64 v.w, .int .u64 v.c] 86 (0, 0))) := t10
        obtain ⟨_, c81, c82⟩ := at_three hF3.c8
        have HF3 : Hid (Hf wr b4 b5 b6 b7 b8 Hb n thr over N (.slice (some ⟨b, o, none⟩) n cap) Lb (p + 1)) := hF3
        have HS3 : Hid (BySz wr Lb L (p + 1) S) := hS3
        clear hN hbel hF3 hS3 t9 t10
        by_cases hkP : k < P2
        · have hSl : Hid (S.length = p + 1) := by
            have := HL.out.1
            rw [List.length_take, HV.out] at this
            show _ = _
            omega
          obtain ⟨X, hX⟩ : ∃ X, X = S.getD k [] := ⟨_, rfl⟩
          obtain ⟨Y, hY⟩ : ∃ Y, Y = (if k = 0 then [] else S.getD (k - 1) []) := ⟨_, rfl⟩
          have HTT : Hid ((nextS n p thr over v S)[k]? = some (mrg X (Y.map (addS n p thr over v)))) := by
            show _ = _
            rw [next_get (by have := HP2.out; omega), hX, hY]
            rfl
          have HX : Hid (X = S.getD k []) := hX
          have HY : Hid (Y = (if k = 0 then [] else S.getD (k - 1) [])) := hY
          have HGX : Hid (X.length ≤ 131072 ∧ ∀ s ∈ X, Good thr over s) := by
            show _ ∧ _
            rw [hX]
            cases hq : S[k]? with
            | none => simp [List.getD, hq]
            | some T =>
              have := good_of HL.out (by rw [List.length_take]; omega) hn hq
              simpa [List.getD, hq] using this
          have HGY : Hid (Y.length ≤ 131072 ∧ ∀ s ∈ Y, Good thr over s) := by
            show _ ∧ _
            rw [hY]
            by_cases h0 : k = 0
            · rw [if_pos h0]
              simp
            · rw [if_neg h0]
              cases hq : S[k - 1]? with
              | none => simp [List.getD, hq]
              | some T =>
                have := good_of HL.out (by rw [List.length_take]; omega) hn hq
                simpa [List.getD, hq] using this
          clear hX hY
          have hXl := HGX.out.1
          have hYl := HGY.out.1
          have q0 : (0 : Int) ≤ (k : Int) := Int.natCast_nonneg _
          go_upto_if 51 with fail
          go_cut [14] (fun x wx => SlR wr x X ∧ wr = wx)
          case first =>
            by_cases hkp : k ≤ p
            · obtain ⟨T, hT⟩ : ∃ T, S[k]? = some T := ⟨_, List.getElem?_eq_getElem (by rw [hSl.out]; omega)⟩
              obtain ⟨g, cp, e1, e2, e3⟩ := HS3.out.at_ k T hT
              obtain ⟨cL, _⟩ := HS3.out.cells.cell e1
              have hXT : X = T := by rw [HX.out]; simp [List.getD, hT]
              have q1 : (k : Int) < (p : Int) + 1 := by omega
              have HE : Hid (SlR wr (.slice (some ⟨g, 0, none⟩) T.length cp) X) := by rw [hXT]; exact SlR.row e3 e2
              clear e1 e2 e3 hT hXT
              go_wp2_with fail
              go_meet
              case rel => exact ⟨HE.out, rfl⟩
            · have hXn : X = [] := by
                rw [HX.out]
                simp [List.getD, List.getElem?_eq_none (show S.length ≤ k by rw [hSl.out]; omega)]
              have HE : Hid (SlR wr (.slice none 0 0) X) := by rw [hXn]; exact SlR.nil wr
              clear hXn
              go_wp2_with fail
              go_meet
              case rel => exact ⟨HE.out, rfl⟩
          case rest =>
            obtain ⟨hX, rfl⟩ := hcut
            have HSX : Hid (SlR wr _ X) := hX
            obtain ⟨ax, cx, rfl, _⟩ := hX
            go_upto_if 58 with fail
            go_cut [15] (fun x wx => SlR wr x Y ∧ wr = wx)
            case first =>
              by_cases hk0 : 0 < k
              · obtain ⟨k1, hk1⟩ : ∃ k1, k = k1 + 1 := ⟨k - 1, by omega⟩
                obtain ⟨T, hT⟩ : ∃ T, S[k1]? = some T := ⟨_, List.getElem?_eq_getElem (by rw [hSl.out]; have := HP2.out; omega)⟩
                obtain ⟨g, cp, e1, e2, e3⟩ := HS3.out.at_ k1 T hT
                obtain ⟨cL, _⟩ := HS3.out.cells.cell e1
                have hYT : Y = T := by rw [HY.out, if_neg (by omega), show k - 1 = k1 by omega]; simp [List.getD, hT]
                have q1 : (k1 : Int) < (p : Int) + 1 := by have := HP2.out; omega
                have q2 : (0 : Int) ≤ (k1 : Int) := Int.natCast_nonneg _
                have ek1 : (k : Int) - 1 = (k1 : Int) := by omega
                have HE : Hid (SlR wr (.slice (some ⟨g, 0, none⟩) T.length cp) Y) := by rw [hYT]; exact SlR.row e3 e2
                clear e1 e2 e3 hT hYT hk1
                go_wp2_with fail
                go_meet
                case rel => exact ⟨HE.out, rfl⟩
              · have hYn : Y = [] := by rw [HY.out, if_pos (by omega)]
                have HE : Hid (SlR wr (.slice none 0 0) Y) := by rw [hYn]; exact SlR.nil wr
                clear hYn
                go_wp2_with fail
                go_meet
                case rel => exact ⟨HE.out, rfl⟩
            case rest =>
              obtain ⟨hY, rfl⟩ := hcut
              have HSY : Hid (SlR wr _ Y) := hY
              obtain ⟨ay, cy, rfl, _⟩ := hY
              obtain ⟨C, hC⟩ : ∃ C, C = X.length + Y.length := ⟨_, rfl⟩
              have eC : (X.length : Int) + (Y.length : Int) = (C : Int) := by omega
              have hC2 : C ≤ 262144 := by omega
              have HC2 : Hid (C = X.length + Y.length) := hC
              clear hC
              obtain ⟨wm, rfl⟩ : ∃ x : World, x = wr := ⟨_, rfl⟩
              go_wp2_with (first | (at_make; refine wpList_make_own _ rfl _ _ 99 rfl wm.heap.size 101 i101 (.agg #[.int .u64 0, .int .u64 0, .int .u64 0]) 3 Try.underlying99 hi101 hz1010 hz1011 .i64 .i64 _ C rfl rfl rfl (by rw [hz1012]; omega) (by unfold maxLen; omega) (Nat.le_refl _) ?_; intro w3 hown3 hgrow3) | fail)
              have HO3 : Hid (w3.ownsRow wm.heap.size 101 3 (.slice (some ⟨wm.heap.size, 0, none⟩) 0 C) 0 []) := hown3
              have HB3 : Hid (Below wm.heap.size wm w3) := grown_below hgrow3 (Nat.le_refl _) (by simp)
              clear hown3 hgrow3
              go_loopw [14, 15, 16] (fun xv yv mv wq => MRel wm (addS n p thr over v) C (mrg X (Y.map (addS n p thr over v))) thr over xv yv mv wq) (fun xv yv _ _ => slen xv + slen yv)
              case atStart => exact MRel.start HSX.out HSY.out HO3.out HGY.out.2 HC2.out HB3.out
              case round =>
                clear HO3 HB3
                obtain ⟨X', Y', M, g, cp, hX, hY, rfl, hown, hmrg, hgood, hsum, hbel⟩ := hrel.opened
                have HSUM : Hid (M.length + X'.length + Y'.length = C) := hsum
                have hMl : M.length ≤ 262144 := by omega
                clear hsum
                have HMG : Hid (M ++ mrg X' (Y'.map (addS n p thr over v)) = mrg X (Y.map (addS n p thr over v))) := hmrg
                have HGD : Hid (∀ s ∈ Y', Good thr over s) := hgood
                have hsz := hbel.size
                obtain ⟨c7, _⟩ := at_one ((hbel.block _ (lt_of_some HF3.out.c7)).trans HF3.out.c7)
                obtain ⟨c4, _⟩ := at_one ((hbel.block _ (lt_of_some HF3.out.c4)).trans HF3.out.c4)
                obtain ⟨c5, _⟩ := at_one ((hbel.block _ (lt_of_some HF3.out.c5)).trans HF3.out.c5)
                obtain ⟨c9', _⟩ := at_one ((hbel.block _ (lt_of_some HT9w.out)).trans HT9w.out)
                obtain ⟨_, c101, c102⟩ := at_three ((hbel.block _ (lt_of_some HT10w.out)).trans HT10w.out)
                clear hmrg hgood
                cases X' with
                | nil =>
                  cases Y' with
                  | nil =>
                    obtain ⟨ax', cx', rfl⟩ := hX.empty
                    obtain ⟨ay', cy', rfl⟩ := hY.empty
                    have hMT : M = mrg X (Y.map (addS n p thr over v)) := by have := HMG.out; simpa [mrg] using this
                    have hr := RowSb.of_own hown
                    have hNw := HNX.out.below hbel
                    have hlk : ((nextS n p thr over v S).take k).length = k := by
                      rw [List.length_take]
                      have := HP2.out
                      simp [nextS]
                      omega
                    have hnew := hNw.push (by rw [hlk]; exact hkP) hr.1 hr.2
                    rw [hlk] at hnew
                    have HNW : Hid (BySz (wr.setCell ⟨Nb, k, none⟩ (.slice (some ⟨g, 0, none⟩) M.length cp)) Nb (Ln.set k (.slice (some ⟨g, 0, none⟩) M.length cp)) P2 ((nextS n p thr over v S).take (k + 1))) := by
                      rw [take_snoc HTT.out, ← hMT]
                      exact hnew
                    obtain ⟨z, hz⟩ : ∃ z, Ln[k]? = some z := ⟨_, List.getElem?_eq_getElem (by rw [hNw.len]; exact hkP)⟩
                    obtain ⟨cz, fz⟩ := hNw.cells.cell hz
                    have HBN : Hid (Below W2.heap.size W2 (wr.setCell ⟨Nb, k, none⟩ (.slice (some ⟨g, 0, none⟩) M.length cp))) := below_setCell (HBL.out.trans (hbel.mono HBL.out.size)) (by show W2.heap.size ≤ Nb; have := HNb.out; omega) _
                    have q9 : (k : Int) < (P2 : Int) := by omega
                    clear hMT hr hNw hlk hnew hz c4 c5 c7 c9' c101 c102 hown
                    go_wp2
                    go_roundw
                    case rel => exact ⟨k + 1, _, by omega, by go_num, HNW.out, HBN.out⟩
                    case measure => simp [intOf]; omega
                  | cons t Y' =>
                    obtain ⟨ax', cx', hxe⟩ := hX.empty
                    subst hxe
                    obtain ⟨g2, o2, cp2, hye, hg2, hcp2, a0, a1, a2, hY2⟩ := hY.cons
                    have y0 := (hbel.cell (show (⟨g2, o2, none⟩ : Addr).block < wm.heap.size from hg2)).trans a0
                    have y1 := (hbel.cell (show (⟨g2, o2 + 1, none⟩ : Addr).block < wm.heap.size from hg2)).trans a1
                    have y2 := (hbel.cell (show (⟨g2, o2 + 2, none⟩ : Addr).block < wm.heap.size from hg2)).trans a2
                    obtain ⟨ly, hly⟩ : ∃ ly, ly = Y'.length + 1 := ⟨_, rfl⟩
                    rw [← hly] at hye
                    subst hye
                    have HLY : Hid (ly = Y'.length + 1) := hly
                    have m1 : (1 : Int) ≤ (ly : Int) := by omega
                    have m2 : 0 < ly := by omega
                    have m3 : (ly : Int) ≤ (cp2 : Int) := by omega
                    have m4 : ((ly : Int) == 0) = false := by simp; omega
                    have HY0 : Hid (wm.cell? ⟨g2, o2, none⟩ = some (.int .u64 (t.m : Nat)) ∧ wm.cell? ⟨g2, o2 + 1, none⟩ = some (.int .u64 (t.w : Nat)) ∧ wm.cell? ⟨g2, o2 + 2, none⟩ = some (.int .u64 (t.c : Nat))) := ⟨a0, a1, a2⟩
                    clear a0 a1 a2 hly hcp2
                    go_wp2_with fail
                    go_quiet (fail)
                    go_upto_region 20 with fail
                    obtain ⟨W, hW⟩ : ∃ W, W = wr.drewN nq := ⟨_, rfl⟩
                    rw [← hW]
                    have hbW : Below wr.heap.size wr W := by rw [hW]; exact qmS.below_drewN _ _
                    have HWO : Hid (W.ownsRow wm.heap.size 101 3 (.slice (some ⟨g, 0, none⟩) M.length cp) M.length (sbCells M)) := own_below hown hbW
                    have HWB : Hid (Below wm.heap.size wm W) := hbel.trans (hbW.mono hsz)
                    have HTK : Hid (takeX (addS n p thr over v) [] (t :: Y') = false) := rfl
                    have e0 := (hbW.cell (World.block_lt_of_cell? wr _ y0)).trans y0
                    have e1 := (hbW.cell (World.block_lt_of_cell? wr _ y1)).trans y1
                    have e2 := (hbW.cell (World.block_lt_of_cell? wr _ y2)).trans y2
                    have e7 := (hbW.cell (World.block_lt_of_cell? wr _ c7)).trans c7
                    have e9 := (hbW.cell (World.block_lt_of_cell? wr _ c9')).trans c9'
                    have e4 := (hbW.cell (World.block_lt_of_cell? wr _ c4)).trans c4
                    have e5 := (hbW.cell (World.block_lt_of_cell? wr _ c5)).trans c5
                    have e101 := (hbW.cell (World.block_lt_of_cell? wr _ c101)).trans c101
                    have e102 := (hbW.cell (World.block_lt_of_cell? wr _ c102)).trans c102
                    clear hW y0 y1 y2 hown hbel c4 c5 c7 c9' c101 c102
                    have hWs := HWB.out.size
                    have HSY2 := SlR.tail hY2 HLY.out m3
                    obtain ⟨gt1, gt2, gt3⟩ := HGD.out t (List.mem_cons_self ..)
                    by_cases hcq : cp2 = 1
                    all_goals
                      go_region_held3 (fun w' => w'.cell? ⟨g2, o2, none⟩ = some (.int .u64 (t.m : Nat)) ∧ w'.cell? ⟨g2, o2 + 1, none⟩ = some (.int .u64 (t.w : Nat)) ∧ w'.cell? ⟨g2, o2 + 2, none⟩ = some (.int .u64 (t.c : Nat)))
                        (go_keep)
                        (first | (go_at_call 57; refine (add57 n p thr over b7 b9 b10 b4 b5 v t hlt hn gt1 gt2 gt3 hthr hover p1 p2 W.drew e7 e9 e101 e102 e4 e5).mono ?_; rintro e w4 ⟨rfl, hb4⟩; have hWd : Below wm.heap.size wm w4 := HWB.out.drew.trans (hb4.mono (by exact hWs)); have hs4 := hWd.size; have hO4 := own_below (own_drew HWO.out) hb4; have z0 := (hb4.cell (World.block_lt_of_cell? W _ e0)).trans e0; have z1 := (hb4.cell (World.block_lt_of_cell? W _ e1)).trans e1; have z2 := (hb4.cell (World.block_lt_of_cell? W _ e2)).trans e2; have x0 := World.new_ne w4 _ z0) | (have hO5 := hO4; refine step_append_lies _ (by rfl) _ _ _ (by rfl) wm.heap.size 101 i101 _ 3 24 Try.underlying99 hi101 hz1010 hz1011 hz1012 rfl (by omega) (.slice (some ⟨g, 0, none⟩) M.length cp) M.length (sbCells M) (by rfl) (own_alloc hO4 _) ⟨w4.heap.size, 0, none⟩ 1 1 [.int .u64 (addS n p thr over v t).m, .int .u64 (addS n p thr over v t).w, .int .u64 (addS n p thr over v t).c] (by rfl) (by rfl) (World.news_of_block (cs := #[.int .u64 (addS n p thr over v t).m, .int .u64 (addS n p thr over v t).w, .int .u64 (addS n p thr over v t).c]) (t := 101) (fr := (0, 0)) (heap_alloc_new w4 _)) (by simp [Value.oneCell']) (by omega) (by unfold maxLen; omega) (by omega) (by simp; omega) (w4.heap.size + 1) (by simp) ?_; intro g5 cap5 w5 hown5 hgrow5 hat5 hlt5; have hb5 : Below wm.heap.size wm w5 := (hWd.alloc hs4 _).trans (grown_below hgrow5 (by simp; omega) (own_ge HWO.out)); have z3 := (hb5.cell (show (⟨g2, o2, none⟩ : Addr).block < wm.heap.size from hg2)).trans HY0.out.1; have z4 := (hb5.cell (show (⟨g2, o2 + 1, none⟩ : Addr).block < wm.heap.size from hg2)).trans HY0.out.2.1; have z5 := (hb5.cell (show (⟨g2, o2 + 2, none⟩ : Addr).block < wm.heap.size from hg2)).trans HY0.out.2.2) | fail)
                      all_goals
                        go_wp2
                        all_goals
                          go_roundw
                          case rel => first | exact MRel.goY hX HSY2.1 HTK.out HMG.out HGD.out (by have h1 := HSUM.out; have h2 := HLY.out; simp only [List.length_cons, List.length_nil] at h1 ⊢; omega) HLY.out hown5 hb5 | exact MRel.goY hX (HSY2.2 (by first | rfl | omega)) HTK.out HMG.out HGD.out (by have h1 := HSUM.out; have h2 := HLY.out; simp only [List.length_cons, List.length_nil] at h1 ⊢; omega) HLY.out hown5 hb5 | exact ⟨_, _, _, MRel.goY hX HSY2.1 HTK.out HMG.out HGD.out (by have h1 := HSUM.out; have h2 := HLY.out; simp only [List.length_cons, List.length_nil] at h1 ⊢; omega) HLY.out hown5 hb5, rfl, rfl, rfl⟩ | exact ⟨_, _, _, MRel.goY hX (HSY2.2 (by first | rfl | omega)) HTK.out HMG.out HGD.out (by have h1 := HSUM.out; have h2 := HLY.out; simp only [List.length_cons, List.length_nil] at h1 ⊢; omega) HLY.out hown5 hb5, rfl, rfl, rfl⟩
                          case measure => simp [slen]; omega
                | cons s X' =>
                  obtain ⟨g1, o1, cp1, hxe, hg1, hcp1, a0, a1, a2, hX2⟩ := hX.cons
                  have a0' := (hbel.cell (show (⟨g1, o1, none⟩ : Addr).block < wm.heap.size from hg1)).trans a0
                  have a1' := (hbel.cell (show (⟨g1, o1 + 1, none⟩ : Addr).block < wm.heap.size from hg1)).trans a1
                  have a2' := (hbel.cell (show (⟨g1, o1 + 2, none⟩ : Addr).block < wm.heap.size from hg1)).trans a2
                  obtain ⟨lx, hlx⟩ : ∃ lx, lx = X'.length + 1 := ⟨_, rfl⟩
                  rw [← hlx] at hxe
                  subst hxe
                  have HLX : Hid (lx = X'.length + 1) := hlx
                  have l1 : (1 : Int) ≤ (lx : Int) := by omega
                  have l2 : 0 < lx := by omega
                  have l3 : (lx : Int) ≤ (cp1 : Int) := by omega
                  clear a0 a1 a2 hcp1
                  cases Y' with
                  | nil =>
                    clear hlx
                    obtain ⟨ay', cy', hye⟩ := hY.empty
                    subst hye
                    go_wp2_with fail
                    go_quiet (fail)
                    go_upto_region 19 with fail
                    obtain ⟨W, hW⟩ : ∃ W, W = wr.drewN nq := ⟨_, rfl⟩
                    rw [← hW]
                    have hbW : Below wr.heap.size wr W := by rw [hW]; exact qmS.below_drewN _ _
                    have HWO : Hid (W.ownsRow wm.heap.size 101 3 (.slice (some ⟨g, 0, none⟩) M.length cp) M.length (sbCells M)) := own_below hown hbW
                    have HWB : Hid (Below wm.heap.size wm W) := hbel.trans (hbW.mono hsz)
                    have HTK : Hid (takeX (addS n p thr over v) (s :: X') [] = true) := rfl
                    have b0 := (hbW.cell (World.block_lt_of_cell? wr _ a0')).trans a0'
                    have b1 := (hbW.cell (World.block_lt_of_cell? wr _ a1')).trans a1'
                    have b2 := (hbW.cell (World.block_lt_of_cell? wr _ a2')).trans a2'
                    clear hW a0' a1' a2' hown hbel c4 c5 c7 c9' c101 c102
                    have hWs := HWB.out.size
                    have HSX2 := SlR.tail hX2 HLX.out l3
                    go_region_law ((refine step_append_lies _ (by rfl) _ _ _ (by rfl) wm.heap.size 101 i101 _ 3 24 Try.underlying99 hi101 hz1010 hz1011 hz1012 rfl (by omega) (.slice (some ⟨g, 0, none⟩) M.length cp) M.length (sbCells M) (by rfl) (own_drew (own_alloc HWO.out _)) ⟨W.heap.size, 0, none⟩ 1 1 [.int .u64 s.m, .int .u64 s.w, .int .u64 s.c] (by rfl) (by rfl) (World.news_of_block (cs := #[.int .u64 s.m, .int .u64 s.w, .int .u64 s.c]) (t := 101) (fr := (0, 0)) (heap_alloc_new W _)) (by simp [Value.oneCell']) (by omega) (by unfold maxLen; omega) (by omega) (by simp; omega) (W.heap.size + 1) (by simp) ?_; intro g5 cap5 w5 hown5 hgrow5 hat5 hlt5))
                    all_goals
                      have hb5 : Below wm.heap.size wm w5 := ((HWB.out.alloc hWs _).drew).trans (grown_below hgrow5 (by simp; omega) (own_ge HWO.out))
                      go_wp2
                      all_goals
                        go_roundw
                        case rel => first | exact MRel.goX HSX2.1 hY HTK.out HMG.out HGD.out (by have h1 := HSUM.out; have h2 := HLX.out; simp only [List.length_cons, List.length_nil] at h1 ⊢; omega) HLX.out hown5 hb5 | exact MRel.goX (HSX2.2 (by first | rfl | omega)) hY HTK.out HMG.out HGD.out (by have h1 := HSUM.out; have h2 := HLX.out; simp only [List.length_cons, List.length_nil] at h1 ⊢; omega) HLX.out hown5 hb5 | exact ⟨_, _, _, MRel.goX HSX2.1 hY HTK.out HMG.out HGD.out (by have h1 := HSUM.out; have h2 := HLX.out; simp only [List.length_cons, List.length_nil] at h1 ⊢; omega) HLX.out hown5 hb5, rfl, rfl, rfl⟩ | exact ⟨_, _, _, MRel.goX (HSX2.2 (by first | rfl | omega)) hY HTK.out HMG.out HGD.out (by have h1 := HSUM.out; have h2 := HLX.out; simp only [List.length_cons, List.length_nil] at h1 ⊢; omega) HLX.out hown5 hb5, rfl, rfl, rfl⟩
                        case measure => simp [slen]; omega
                  | cons t Y' =>
                    clear hlx
                    obtain ⟨g2, o2, cp2, hye, hg2, hcp2, a0, a1, a2, hY2⟩ := hY.cons
                    have y0 := (hbel.cell (show (⟨g2, o2, none⟩ : Addr).block < wm.heap.size from hg2)).trans a0
                    have y1 := (hbel.cell (show (⟨g2, o2 + 1, none⟩ : Addr).block < wm.heap.size from hg2)).trans a1
                    have y2 := (hbel.cell (show (⟨g2, o2 + 2, none⟩ : Addr).block < wm.heap.size from hg2)).trans a2
                    obtain ⟨ly, hly⟩ : ∃ ly, ly = Y'.length + 1 := ⟨_, rfl⟩
                    rw [← hly] at hye
                    subst hye
                    have HLY : Hid (ly = Y'.length + 1) := hly
                    have m1 : (1 : Int) ≤ (ly : Int) := by omega
                    have m2 : 0 < ly := by omega
                    have m3 : (ly : Int) ≤ (cp2 : Int) := by omega
                    have m4 : ((ly : Int) == 0) = false := by simp; omega
                    have HY0 : Hid (wm.cell? ⟨g2, o2, none⟩ = some (.int .u64 (t.m : Nat)) ∧ wm.cell? ⟨g2, o2 + 1, none⟩ = some (.int .u64 (t.w : Nat)) ∧ wm.cell? ⟨g2, o2 + 2, none⟩ = some (.int .u64 (t.c : Nat))) := ⟨a0, a1, a2⟩
                    clear a0 a1 a2 hly hcp2
                    obtain ⟨gt1, gt2, gt3⟩ := HGD.out t (List.mem_cons_self ..)
                    go_wp2_with fail
                    go_cut [99] (fun bv wx => ∃ bb : Bool, bv = .bool bb ∧ takeX (addS n p thr over v) (s :: X') (t :: Y') = bb ∧ Below wr.heap.size wr wx)
                    case first =>
                      have hfd := fld101
                      have hde : decide ((s.c : Int) ≤ ((addS n p thr over v t).c : Int)) = takeX (addS n p thr over v) (s :: X') (t :: Y') := by
                        simp only [takeX]
                        exact decide_eq_decide.2 (by omega)
                      go_region_held3 (fun w' => w'.cell? ⟨g1, o1 + 2, none⟩ = some (.int .u64 (s.c : Nat)) ∧ w'.cell? ⟨g2, o2, none⟩ = some (.int .u64 (t.m : Nat)) ∧ w'.cell? ⟨g2, o2 + 1, none⟩ = some (.int .u64 (t.w : Nat)) ∧ w'.cell? ⟨g2, o2 + 2, none⟩ = some (.int .u64 (t.c : Nat)))
                        (go_keep)
                        (first | (go_at_call 57; refine (add57 n p thr over b7 b9 b10 b4 b5 v t hlt hn gt1 gt2 gt3 hthr hover p1 p2 wr.drew c7 c9' c101 c102 c4 c5).mono ?_; rintro e w4 ⟨rfl, hb4⟩; have z0 := (hb4.cell (World.block_lt_of_cell? wr _ y0)).trans y0; have z1 := (hb4.cell (World.block_lt_of_cell? wr _ y1)).trans y1; have z2 := (hb4.cell (World.block_lt_of_cell? wr _ y2)).trans y2; have z3 := (hb4.cell (World.block_lt_of_cell? wr _ a2')).trans a2'))
                      all_goals
                        go_wp2_with fail
                        go_meet
                        case rel => exact ⟨_, rfl, (by simp only [takeX]), (Below.refl _ _).drew.trans hb4⟩
                    case rest =>
                      obtain ⟨bb, rfl, hbb, hbc⟩ := hcut
                      have HTK : Hid (takeX (addS n p thr over v) (s :: X') (t :: Y') = bb) := hbb
                      clear hbb
                      cases bb with
                      | true =>
                        go_upto_region 19 with fail
                        obtain ⟨W, hW⟩ : ∃ W, W = wc := ⟨_, rfl⟩
                        rw [← hW]
                        have hbW : Below wr.heap.size wr W := by rw [hW]; exact hbc
                        have HWO : Hid (W.ownsRow wm.heap.size 101 3 (.slice (some ⟨g, 0, none⟩) M.length cp) M.length (sbCells M)) := own_below hown hbW
                        have HWB : Hid (Below wm.heap.size wm W) := hbel.trans (hbW.mono hsz)
                        have b0 := (hbW.cell (World.block_lt_of_cell? wr _ a0')).trans a0'
                        have b1 := (hbW.cell (World.block_lt_of_cell? wr _ a1')).trans a1'
                        have b2 := (hbW.cell (World.block_lt_of_cell? wr _ a2')).trans a2'
                        clear hW a0' a1' a2' hown hbel c4 c5 c7 c9' c101 c102
                        have hWs := HWB.out.size
                        have HSX2 := SlR.tail hX2 HLX.out l3
                        go_region_law ((refine step_append_lies _ (by rfl) _ _ _ (by rfl) wm.heap.size 101 i101 _ 3 24 Try.underlying99 hi101 hz1010 hz1011 hz1012 rfl (by omega) (.slice (some ⟨g, 0, none⟩) M.length cp) M.length (sbCells M) (by rfl) (own_drew (own_alloc HWO.out _)) ⟨W.heap.size, 0, none⟩ 1 1 [.int .u64 s.m, .int .u64 s.w, .int .u64 s.c] (by rfl) (by rfl) (World.news_of_block (cs := #[.int .u64 s.m, .int .u64 s.w, .int .u64 s.c]) (t := 101) (fr := (0, 0)) (heap_alloc_new W _)) (by simp [Value.oneCell']) (by omega) (by unfold maxLen; omega) (by omega) (by simp; omega) (W.heap.size + 1) (by simp) ?_; intro g5 cap5 w5 hown5 hgrow5 hat5 hlt5))
                        all_goals
                          have hb5 : Below wm.heap.size wm w5 := ((HWB.out.alloc hWs _).drew).trans (grown_below hgrow5 (by simp; omega) (own_ge HWO.out))
                          go_wp2
                          all_goals
                            go_roundw
                            case rel => first | exact MRel.goX HSX2.1 hY HTK.out HMG.out HGD.out (by have h1 := HSUM.out; have h2 := HLX.out; simp only [List.length_cons, List.length_nil] at h1 ⊢; omega) HLX.out hown5 hb5 | exact MRel.goX (HSX2.2 (by first | rfl | omega)) hY HTK.out HMG.out HGD.out (by have h1 := HSUM.out; have h2 := HLX.out; simp only [List.length_cons, List.length_nil] at h1 ⊢; omega) HLX.out hown5 hb5 | exact ⟨_, _, _, MRel.goX HSX2.1 hY HTK.out HMG.out HGD.out (by have h1 := HSUM.out; have h2 := HLX.out; simp only [List.length_cons, List.length_nil] at h1 ⊢; omega) HLX.out hown5 hb5, rfl, rfl, rfl⟩ | exact ⟨_, _, _, MRel.goX (HSX2.2 (by first | rfl | omega)) hY HTK.out HMG.out HGD.out (by have h1 := HSUM.out; have h2 := HLX.out; simp only [List.length_cons, List.length_nil] at h1 ⊢; omega) HLX.out hown5 hb5, rfl, rfl, rfl⟩
                            case measure => simp [slen]; omega
                      | false =>
                        go_upto_region 20 with fail
                        obtain ⟨W, hW⟩ : ∃ W, W = wc := ⟨_, rfl⟩
                        rw [← hW]
                        have hbW : Below wr.heap.size wr W := by rw [hW]; exact hbc
                        have HWO : Hid (W.ownsRow wm.heap.size 101 3 (.slice (some ⟨g, 0, none⟩) M.length cp) M.length (sbCells M)) := own_below hown hbW
                        have HWB : Hid (Below wm.heap.size wm W) := hbel.trans (hbW.mono hsz)
                        have e0 := (hbW.cell (World.block_lt_of_cell? wr _ y0)).trans y0
                        have e1 := (hbW.cell (World.block_lt_of_cell? wr _ y1)).trans y1
                        have e2 := (hbW.cell (World.block_lt_of_cell? wr _ y2)).trans y2
                        have e7 := (hbW.cell (World.block_lt_of_cell? wr _ c7)).trans c7
                        have e9 := (hbW.cell (World.block_lt_of_cell? wr _ c9')).trans c9'
                        have e4 := (hbW.cell (World.block_lt_of_cell? wr _ c4)).trans c4
                        have e5 := (hbW.cell (World.block_lt_of_cell? wr _ c5)).trans c5
                        have e101 := (hbW.cell (World.block_lt_of_cell? wr _ c101)).trans c101
                        have e102 := (hbW.cell (World.block_lt_of_cell? wr _ c102)).trans c102
                        clear hW y0 y1 y2 hown hbel c4 c5 c7 c9' c101 c102
                        have hWs := HWB.out.size
                        have HSY2 := SlR.tail hY2 HLY.out m3
                        obtain ⟨gt1, gt2, gt3⟩ := HGD.out t (List.mem_cons_self ..)
                        by_cases hcq : cp2 = 1
                        all_goals
                          go_region_held3 (fun w' => w'.cell? ⟨g2, o2, none⟩ = some (.int .u64 (t.m : Nat)) ∧ w'.cell? ⟨g2, o2 + 1, none⟩ = some (.int .u64 (t.w : Nat)) ∧ w'.cell? ⟨g2, o2 + 2, none⟩ = some (.int .u64 (t.c : Nat)))
                            (go_keep)
                            (first | (go_at_call 57; refine (add57 n p thr over b7 b9 b10 b4 b5 v t hlt hn gt1 gt2 gt3 hthr hover p1 p2 W.drew e7 e9 e101 e102 e4 e5).mono ?_; rintro e w4 ⟨rfl, hb4⟩; have hWd : Below wm.heap.size wm w4 := HWB.out.drew.trans (hb4.mono (by exact hWs)); have hs4 := hWd.size; have hO4 := own_below (own_drew HWO.out) hb4; have z0 := (hb4.cell (World.block_lt_of_cell? W _ e0)).trans e0; have z1 := (hb4.cell (World.block_lt_of_cell? W _ e1)).trans e1; have z2 := (hb4.cell (World.block_lt_of_cell? W _ e2)).trans e2; have x0 := World.new_ne w4 _ z0) | (have hO5 := hO4; refine step_append_lies _ (by rfl) _ _ _ (by rfl) wm.heap.size 101 i101 _ 3 24 Try.underlying99 hi101 hz1010 hz1011 hz1012 rfl (by omega) (.slice (some ⟨g, 0, none⟩) M.length cp) M.length (sbCells M) (by rfl) (own_alloc hO4 _) ⟨w4.heap.size, 0, none⟩ 1 1 [.int .u64 (addS n p thr over v t).m, .int .u64 (addS n p thr over v t).w, .int .u64 (addS n p thr over v t).c] (by rfl) (by rfl) (World.news_of_block (cs := #[.int .u64 (addS n p thr over v t).m, .int .u64 (addS n p thr over v t).w, .int .u64 (addS n p thr over v t).c]) (t := 101) (fr := (0, 0)) (heap_alloc_new w4 _)) (by simp [Value.oneCell']) (by omega) (by unfold maxLen; omega) (by omega) (by simp; omega) (w4.heap.size + 1) (by simp) ?_; intro g5 cap5 w5 hown5 hgrow5 hat5 hlt5; have hb5 : Below wm.heap.size wm w5 := (hWd.alloc hs4 _).trans (grown_below hgrow5 (by simp; omega) (own_ge HWO.out)); have z3 := (hb5.cell (show (⟨g2, o2, none⟩ : Addr).block < wm.heap.size from hg2)).trans HY0.out.1; have z4 := (hb5.cell (show (⟨g2, o2 + 1, none⟩ : Addr).block < wm.heap.size from hg2)).trans HY0.out.2.1; have z5 := (hb5.cell (show (⟨g2, o2 + 2, none⟩ : Addr).block < wm.heap.size from hg2)).trans HY0.out.2.2) | fail)
                          all_goals
                            go_wp2
                            all_goals
                              go_roundw
                              case rel => first | exact MRel.goY hX HSY2.1 HTK.out HMG.out HGD.out (by have h1 := HSUM.out; have h2 := HLY.out; simp only [List.length_cons, List.length_nil] at h1 ⊢; omega) HLY.out hown5 hb5 | exact MRel.goY hX (HSY2.2 (by first | rfl | omega)) HTK.out HMG.out HGD.out (by have h1 := HSUM.out; have h2 := HLY.out; simp only [List.length_cons, List.length_nil] at h1 ⊢; omega) HLY.out hown5 hb5 | exact ⟨_, _, _, MRel.goY hX HSY2.1 HTK.out HMG.out HGD.out (by have h1 := HSUM.out; have h2 := HLY.out; simp only [List.length_cons, List.length_nil] at h1 ⊢; omega) HLY.out hown5 hb5, rfl, rfl, rfl⟩ | exact ⟨_, _, _, MRel.goY hX (HSY2.2 (by first | rfl | omega)) HTK.out HMG.out HGD.out (by have h1 := HSUM.out; have h2 := HLY.out; simp only [List.length_cons, List.length_nil] at h1 ⊢; omega) HLY.out hown5 hb5, rfl, rfl, rfl⟩
                              case measure => simp [slen]; omega
        · obtain rfl : k = P2 := by omega
          have hSn : Hid (BySz wr Nb Ln k (nextS n p thr over v S)) := by
            show BySz _ _ _ _ _
            have := HNX.out
            rw [List.take_of_length_le (by simp [nextS]; have := HP2.out; omega)] at this
            exact this
          have HLn : Hid (Lists n thr over (vs.take (p + 1)) (nextS n p thr over v S)) := by
            have h1 := lists_step v (by rw [List.length_take, HV.out]; omega) HL.out
            rw [← take_snoc HVv.out, show (vs.take p).length = p by rw [List.length_take, HV.out]; omega] at h1
            exact h1
          obtain ⟨_, f81, _⟩ := fz_three HF3.out.c8
          have ne8 : b8 ≠ Nb := fun e => by
            have h1 := HF3.out.c8
            have h2 := HNX.out.cells
            unfold CellsAre at h2
            rw [e, h2] at h1
            simp at h1
          have ne9 : Hb ≠ b8 := fun e => by
            have h1 := HF3.out.c8
            have h2 := HH2.out.congr (HBL.out.block _ (lt_of_some HH2.out))
            unfold CellsAre at h2
            rw [← e, h2] at h1
            simp at h1
          have HFn : Hid (Hf (wr.setCell ⟨b8, 1, none⟩ (.slice (some ⟨Nb, 0, none⟩) k k)) b4 b5 b6 b7 b8 Hb n thr over N (.slice (some ⟨b, o, none⟩) n cap) Nb k) := HF3.out.set
          have HSn : Hid (BySz (wr.setCell ⟨b8, 1, none⟩ (.slice (some ⟨Nb, 0, none⟩) k k)) Nb Ln k (nextS n p thr over v S)) := hSn.out.far HF3.out.c8 (by decide) ne8 _
          have HHn : Hid (CellsAre (wr.setCell ⟨b8, 1, none⟩ (.slice (some ⟨Nb, 0, none⟩) k k)) Hb Zh 64) := (HH2.out.congr (HBL.out.block _ (lt_of_some HH2.out))).congr (Below.heap_setCell _ _ _ _ ne9)
          have HBn : Hid (Below w.heap.size w (wr.setCell ⟨b8, 1, none⟩ (.slice (some ⟨Nb, 0, none⟩) k k))) := below_setCell (HB2.out.trans (HBL.out.mono HB2.out.size)) HB8.out _
          clear ne8 ne9
          go_wp2
          go_roundw
          case rel => exact ⟨p + 1, Nb, Ln, _, by omega, by go_num, by have := HP2.out; subst this; exact HFn.out, by have := HP2.out; subst this; exact HSn.out, HHn.out, HLn.out, HBn.out⟩
          case measure => simp [intOf]; omega
    · obtain rfl : p = n := by omega
      have hSl : Hid (S.length = N) := by
        show _ = _
        have h1 := HL.out.1
        rw [List.length_take, HV.out] at h1
        have := HN.out
        omega
      have HLv : Hid (Lists p thr over vs S) := by
        show Lists _ _ _ _ _
        have h1 := HL.out
        rwa [List.take_of_length_le (by rw [HV.out]; exact Nat.le_refl _)] at h1
      have HF1 : Hid (Hf wo b4 b5 b6 b7 b8 Hb p thr over N (.slice (some ⟨b, o, none⟩) p cap) Lb N) := by
        show Hf _ _ _ _ _ _ _ _ _ _ _ _ _ _
        have h1 := HF.out
        rwa [← HN.out] at h1
      have HS1 : Hid (BySz wo Lb L N S) := by
        show BySz _ _ _ _ _
        have h1 := HS.out
        rwa [← HN.out] at h1
      have HV1 : Hid (HvSz wo Hb Zh N (S.take 0)) := ⟨HH.out, HZl.out, fun k T hk => by simp at hk⟩
      obtain ⟨_, c81, _⟩ := at_three HF1.out.c8
      clear HF HS HH HL HZl
      go_wp2_with fail
      go_loopw [129] (fun kv wq => ∃ (k : Nat) (H : List Value), k ≤ N ∧ kv = .int .i64 k ∧ HvSz wq Hb H N (S.take k) ∧ BySz wq Lb L N S ∧ Hf wq b4 b5 b6 b7 b8 Hb p thr over N (.slice (some ⟨b, o, none⟩) p cap) Lb N ∧ Below w.heap.size w wq) (fun kv _ => N - (intOf kv).toNat)
      case atStart => exact ⟨0, _, Nat.zero_le _, by go_num, HV1.out, HS1.out, HF1.out, HB.out⟩
      case round =>
        clear HV1 HS1 HF1 HB c81
        obtain ⟨k, H, hk, rfl, hHv, hS, hF, hbel⟩ := hrel
        have HHV : Hid (HvSz wr Hb H N (S.take k)) := hHv
        have HS : Hid (BySz wr Lb L N S) := hS
        have HF : Hid (Hf wr b4 b5 b6 b7 b8 Hb p thr over N (.slice (some ⟨b, o, none⟩) p cap) Lb N) := hF
        have HB : Hid (Below w.heap.size w wr) := hbel
        clear hHv hS hF hbel
        obtain ⟨wk, rfl⟩ : ∃ x : World, x = wr := ⟨_, rfl⟩
        by_cases hkN : k < N
        · obtain ⟨T, hT⟩ : ∃ T, S[k]? = some T := ⟨_, List.getElem?_eq_getElem (by rw [hSl.out]; exact hkN)⟩
          obtain ⟨g, cp, e1, e2, e3⟩ := HS.out.at_ k T hT
          obtain ⟨cL, _⟩ := HS.out.cells.cell e1
          have hTl := (good_of HLv.out (by rw [HV.out]; exact Nat.le_refl _) hn hT).1
          have HT : Hid (S[k]? = some T) := hT
          have HRS : Hid (RowSb wk g T) := e3
          have q0 : (0 : Int) ≤ (k : Int) := Int.natCast_nonneg _
          have q1 : (k : Int) < (N : Int) := by omega
          obtain ⟨tn, htn⟩ : ∃ tn, tn = T.length := ⟨_, rfl⟩
          rw [← htn] at cL hTl
          have HTN : Hid (tn = T.length) := htn
          clear hT e1 e2 e3 htn
          go_wp2_with (first | (at_make; refine wpList_make_full _ rfl _ _ 64 rfl wk.heap.size 23 i23 (.int .u64 0) 1 Try.underlying64 hi23 hz230 hz231 .i64 .i64 _ _ tn rfl rfl rfl rfl (by rw [hz232]; omega) (by unfold maxLen; omega) (Nat.le_refl _) ?_; intro w5 hown5 hgrow5) | fail)
          obtain ⟨hz5, hr5⟩ := made_row hown5
          have HR5 : Hid (RowPart w5 wk.heap.size (fun i => mxw 0 (T.take (i + 1))) 0 tn) := ⟨_, hr5, hz5, fun i hi => absurd hi (by omega)⟩
          have HB5 : Hid (Below wk.heap.size wk w5) := grown_below hgrow5 (Nat.le_refl _) (by simp)
          clear hown5 hgrow5 hz5 hr5
          go_loopw [139, 20] (fun jv wv wq => ∃ j : Nat, j ≤ tn ∧ jv = .int .i64 j ∧ wv = .int .u64 (mxw 0 (T.take j) : Nat) ∧ RowPart wq wk.heap.size (fun i => mxw 0 (T.take (i + 1))) j tn ∧ Below wk.heap.size wk wq) (fun jv _ _ => tn - (intOf jv).toNat)
          case atStart => exact ⟨0, Nat.zero_le _, by go_num, rfl, HR5.out, HB5.out⟩
          case round =>
            clear HR5 HB5
            obtain ⟨j, hj, rfl, rfl, hrow, hbel⟩ := hrel
            by_cases hjt : j < tn
            · obtain ⟨s, hs⟩ : ∃ s, T[j]? = some s := ⟨_, List.getElem?_eq_getElem (by rw [← HTN.out]; exact hjt)⟩
              obtain ⟨a0, a1, a2⟩ := (HRS.out.at_ j s hs).below hbel HRS.out.lt
              rw [Nat.zero_add] at a0 a1 a2
              have HM : Hid (mxw 0 (T.take (j + 1)) = max (mxw 0 (T.take j)) s.w) := mxw_take hs 0
              have HRW : Hid (RowPart wr wk.heap.size (fun i => mxw 0 (T.take (i + 1))) j tn) := hrow
              have j0 : (0 : Int) ≤ (j : Int) := Int.natCast_nonneg _
              have j1 : (j : Int) < (tn : Int) := by omega
              generalize hax : mxw 0 (T.take j) = ax at *
              clear hax hs hrow
              go_upto_region 33 with fail
              obtain ⟨W, hW⟩ : ∃ W, W = wr.alloc (.cells #[.int .u64 s.m, .int .u64 s.w, .int .u64 s.c] 101) := ⟨_, rfl⟩
              rw [← hW]
              have hbW : Below wr.heap.size wr W := by rw [hW]; exact (Below.refl _ _).alloc (Nat.le_refl _) _
              obtain ⟨_, k1, _⟩ := at_three (show W.heap[wr.heap.size]? = some (.cells #[.int .u64 s.m, .int .u64 s.w, .int .u64 s.c] 101 (0, 0)) by rw [hW]; exact heap_alloc_new _ _)
              have hRW2 : RowPart W wk.heap.size (fun i => mxw 0 (T.take (i + 1))) j tn := by
                obtain ⟨Z, h1, h2, h3⟩ := HRW.out
                exact ⟨Z, (hbW.block _ (lt_of_some h1)).trans h1, h2, h3⟩
              obtain ⟨z, cz, fz⟩ := hRW2.cell hjt
              have HW2 : Hid (RowPart W wk.heap.size (fun i => mxw 0 (T.take (i + 1))) j tn) := hRW2
              have HBW : Hid (Below wk.heap.size wk W) := hbel.trans (hbW.mono hbel.size)
              clear hW hbW hRW2 a0 a1 a2 HRW hbel
              by_cases hmx : ax < s.w
              · have hmm : max ax s.w = s.w := by omega
                rw [hmm] at HM
                go_wp2
                go_roundw
                case rel => exact ⟨j + 1, by omega, by go_num, by rw [HM.out], RowPart.set HW2.out hjt HM.out, below_setCell HBW.out (Nat.le_refl _) _⟩
                case measure => simp [intOf]; omega
              · have hmm : max ax s.w = ax := by omega
                rw [hmm] at HM
                go_wp2
                go_roundw
                case rel => exact ⟨j + 1, by omega, by go_num, by rw [HM.out], RowPart.set HW2.out hjt HM.out, below_setCell HBW.out (Nat.le_refl _) _⟩
                case measure => simp [intOf]; omega
            · obtain rfl : j = tn := by omega
              have hri : RowIs wr wk.heap.size (fun i => (hvs 0 T).getD i 0) T.length := by
                have h1 := hrow.done
                rw [HTN.out] at h1
                exact h1.ext (fun i hi => (hvs_get T 0 i hi).symm)
              have hHw := HHV.out.below hbel
              have hlk : (S.take k).length = k := by rw [List.length_take, hSl.out]; omega
              have hnew := hHw.push (by rw [hlk]; exact hkN) hri
              rw [hlk, ← take_snoc HT.out, ← HTN.out] at hnew
              have hFw := HF.out.below hbel
              have hSw := HS.out.below hbel
              have HNW : Hid (HvSz (wr.setCell ⟨Hb, k, none⟩ (.slice (some ⟨wk.heap.size, 0, none⟩) j j)) Hb (H.set k (.slice (some ⟨wk.heap.size, 0, none⟩) j j)) N (S.take (k + 1))) := hnew
              obtain ⟨_, _, c82⟩ := at_three hFw.c8
              obtain ⟨z, hz⟩ : ∃ z, H[k]? = some z := ⟨_, List.getElem?_eq_getElem (by rw [hHw.len]; exact hkN)⟩
              obtain ⟨cz, fz⟩ := hHw.cells.cell hz
              have neHL : Hb ≠ Lb := rows_apart hHw.cells hSw.cells (by decide)
              have HFn : Hid (Hf (wr.setCell ⟨Hb, k, none⟩ (.slice (some ⟨wk.heap.size, 0, none⟩) j j)) b4 b5 b6 b7 b8 Hb p thr over N (.slice (some ⟨b, o, none⟩) p cap) Lb N) := hFw.far hHw.cells _
              have HSn : Hid (BySz (wr.setCell ⟨Hb, k, none⟩ (.slice (some ⟨wk.heap.size, 0, none⟩) j j)) Lb L N S) := hSw.far hHw.cells (by decide) neHL _
              have HBn : Hid (Below w.heap.size w (wr.setCell ⟨Hb, k, none⟩ (.slice (some ⟨wk.heap.size, 0, none⟩) j j))) := below_setCell (HB.out.trans (hbel.mono HB.out.size)) HBH.out _
              clear hri hHw hlk hnew hFw hSw hz neHL hrow
              go_wp2
              go_roundw
              case rel => exact ⟨k + 1, _, by omega, by go_num, HNW.out, HSn.out, HFn.out, HBn.out⟩
              case measure => simp [intOf]; omega
        · obtain rfl : k = N := by omega
          obtain ⟨x0, x1, x2⟩ := at_three HF.out.c8
          obtain ⟨y0, y1, y2⟩ := at_three HF.out.c6
          obtain ⟨f0, f1, f2⟩ := fz_three HF.out.c6
          go_wp2
          obtain ⟨r6, roff⟩ := three_set (.slice (some ⟨b, o, none⟩) p cap) (.slice (some ⟨Lb, 0, none⟩) k k) (.slice (some ⟨Hb, 0, none⟩) k k) HF.out.c6
          have hS9 := bySz_off HS.out HF.out.c6 roff
          have hH9 := HHV.out.off HF.out.c6 roff
          rw [List.take_of_length_le (by rw [hSl.out]; exact Nat.le_refl _)] at hH9
          have hB9 : Below w.heap.size w (((wk.setCell ⟨b6, 0, none⟩ (.slice (some ⟨b, o, none⟩) p cap)).setCell ⟨b6, 1, none⟩ (.slice (some ⟨Lb, 0, none⟩) k k)).setCell ⟨b6, 2, none⟩ (.slice (some ⟨Hb, 0, none⟩) k k)) :=
            below_setCell (below_setCell (below_setCell HB.out HB6.out _) HB6.out _) HB6.out _
          obtain ⟨t0, t1, t2⟩ := at_three r6
          generalize ((wk.setCell ⟨b6, 0, none⟩ (.slice (some ⟨b, o, none⟩) p cap)).setCell ⟨b6, 1, none⟩ (.slice (some ⟨Lb, 0, none⟩) k k)).setCell ⟨b6, 2, none⟩ (.slice (some ⟨Hb, 0, none⟩) k k) = W9 at *
          refine bodyPost_ret (v := .agg #[.slice (some ⟨b, o, none⟩) p cap, .slice (some ⟨Lb, 0, none⟩) k k, .slice (some ⟨Hb, 0, none⟩) k k]) (by simp [results, Try.results50, go_sem, t0, t1, t2]) rfl ⟨Lb, Hb, L, H, S, ?_, HLv.out, ?_, ?_, hB9⟩
          · rw [HN.out]
          · rw [← HN.out]; exact hS9
          · rw [← HN.out]; exact hH9
end Go.Proofs.Qxb6608623a.qmN
