/- THE PLAIN PART of the halves: the lists of subsets by size, and the pick by them is the first. No Go in sight. -/
import Derived.Test.Qxb6608623aQmT
namespace Go.Proofs.Qxb6608623a.Qm
set_option linter.unusedVariables false

theorem wt_append : ∀ (a b : List Vt) (x y : List Bool), x.length = a.length → wt (a ++ b) (x ++ y) = wt a x + wt b y
  | [], b, [], y, _ => by simp [wt]
  | [], _, _ :: _, _, h => by simp at h
  | _ :: _, _, [], _, h => by simp at h
  | v :: a, b, c :: x, y, h => by
    simp only [List.length_cons, Nat.add_right_cancel_iff] at h
    simp only [List.cons_append, wt, wt_append a b x y h]
    omega
theorem ct_append : ∀ (a b : List Vt) (x y : List Bool), x.length = a.length → ct (a ++ b) (x ++ y) = ct a x + ct b y
  | [], b, [], y, _ => by simp [ct]
  | [], _, _ :: _, _, h => by simp at h
  | _ :: _, _, [], _, h => by simp at h
  | v :: a, b, c :: x, y, h => by
    simp only [List.length_cons, Nat.add_right_cancel_iff] at h
    simp only [List.cons_append, ct, ct_append a b x y h]
    omega
theorem sel_append : ∀ (a b : List Vt) (x y : List Bool), x.length = a.length → sel (a ++ b) (x ++ y) = sel a x ++ sel b y
  | [], b, [], y, _ => by simp [sel]
  | [], _, _ :: _, _, h => by simp at h
  | _ :: _, _, [], _, h => by simp at h
  | v :: a, b, c :: x, y, h => by
    simp only [List.length_cons, Nat.add_right_cancel_iff] at h
    simp only [List.cons_append, sel, sel_append a b x y h]
    split <;> rfl
theorem cnt_append : ∀ (x y : List Bool), cnt (x ++ y) = cnt x + cnt y
  | [], y => by simp [cnt]
  | c :: x, y => by
    simp only [List.cons_append, cnt, cnt_append x y]
    omega
theorem val_append : ∀ (x y : List Bool), val (x ++ y) = val x * 2 ^ y.length + val y
  | [], y => by simp [val]
  | c :: x, y => by
    simp only [List.cons_append, val, val_append x y, List.length_append, Nat.pow_add]
    split
    · rw [Nat.add_mul]; omega
    · rw [Nat.zero_add, Nat.zero_add]
theorem val_snoc (x : List Bool) (b : Bool) : val (x ++ [b]) = 2 * val x + (if b then 1 else 0) := by
  rw [val_append]
  cases b <;> simp [val] <;> omega

structure Sb where
  m : Nat
  w : Nat
  c : Nat

def addS (n p thr over : Nat) (v : Vt) (s : Sb) : Sb := ⟨s.m ||| 2 ^ (n - 1 - p), addU s.w v.w thr, addU s.c v.c over⟩
def tri (n thr over : Nat) (ps : List Vt) (m : List Bool) : Sb := ⟨val m * 2 ^ (n - m.length), min (wt ps m) thr, min (ct ps m) over⟩
def SortedC (S : List Sb) : Prop := S.Pairwise (fun a b => a.c ≤ b.c)

/-- the two lists, both cheapest first, merged; the first wins a draw -/
def mrg : List Sb → List Sb → List Sb
  | [], ys => ys
  | x :: xs, [] => x :: xs
  | x :: xs, y :: ys => if x.c ≤ y.c then x :: mrg xs (y :: ys) else y :: mrg (x :: xs) ys
termination_by xs ys => xs.length + ys.length

theorem mrg_nil (xs : List Sb) : mrg xs [] = xs := by cases xs <;> simp [mrg]
theorem mem_mrg {s : Sb} : ∀ xs ys : List Sb, s ∈ mrg xs ys ↔ s ∈ xs ∨ s ∈ ys
  | [], ys => by simp [mrg]
  | x :: xs, [] => by simp [mrg]
  | x :: xs, y :: ys => by
    unfold mrg
    split
    · rw [List.mem_cons, mem_mrg xs (y :: ys), List.mem_cons (l := xs), or_assoc]
    · rw [List.mem_cons, mem_mrg (x :: xs) ys, List.mem_cons (l := ys)]
      constructor
      · rintro (h | h | h)
        · exact .inr (.inl h)
        · exact .inl h
        · exact .inr (.inr h)
      · rintro (h | h | h)
        · exact .inr (.inl h)
        · exact .inl h
        · exact .inr (.inr h)
termination_by xs ys => xs.length + ys.length
theorem length_mrg : ∀ xs ys : List Sb, (mrg xs ys).length = xs.length + ys.length
  | [], ys => by simp [mrg]
  | x :: xs, [] => by simp [mrg]
  | x :: xs, y :: ys => by
    unfold mrg
    split
    · rw [List.length_cons, length_mrg xs (y :: ys)]
      simp only [List.length_cons]
      omega
    · rw [List.length_cons, length_mrg (x :: xs) ys]
      simp only [List.length_cons]
      omega
termination_by xs ys => xs.length + ys.length
theorem sorted_mrg : ∀ xs ys : List Sb, SortedC xs → SortedC ys → SortedC (mrg xs ys)
  | [], ys, _, h => by simpa [mrg] using h
  | x :: xs, [], h, _ => by simpa [mrg] using h
  | x :: xs, y :: ys, hx, hy => by
    unfold mrg
    have hx' := List.pairwise_cons.mp hx
    have hy' := List.pairwise_cons.mp hy
    split
    · rename_i hle
      refine List.pairwise_cons.mpr ⟨fun s hs => ?_, sorted_mrg xs (y :: ys) hx'.2 hy⟩
      rcases (mem_mrg _ _).mp hs with h | h
      · exact hx'.1 s h
      · rcases List.mem_cons.mp h with rfl | h
        · exact hle
        · exact Nat.le_trans hle (hy'.1 s h)
    · rename_i hle
      refine List.pairwise_cons.mpr ⟨fun s hs => ?_, sorted_mrg (x :: xs) ys hx hy'.2⟩
      rcases (mem_mrg _ _).mp hs with h | h
      · rcases List.mem_cons.mp h with rfl | h
        · omega
        · exact Nat.le_trans (by omega) (hx'.1 s h)
      · exact hy'.1 s h
termination_by xs ys => xs.length + ys.length

/-- the subsets by size, of the voters ps among n -/
def Lists (n thr over : Nat) (ps : List Vt) (S : List (List Sb)) : Prop :=
  S.length = ps.length + 1 ∧ ∀ k T, S[k]? = some T → SortedC T ∧ T.length ≤ 2 ^ ps.length ∧
    ∀ s, s ∈ T ↔ ∃ m : List Bool, m.length = ps.length ∧ cnt m = k ∧ s = tri n thr over ps m

theorem lists_nil (n thr over : Nat) : Lists n thr over [] [[⟨0, 0, 0⟩]] := by
  refine ⟨rfl, fun k T h => ?_⟩
  cases k with
  | succ k => simp at h
  | zero =>
    simp at h
    subst h
    refine ⟨List.pairwise_singleton _ _, by simp, fun s => ?_⟩
    rw [List.mem_singleton]
    constructor
    · rintro rfl
      exact ⟨[], rfl, rfl, by simp [tri, val, wt, ct]⟩
    · rintro ⟨m, hm, _, rfl⟩
      simp at hm
      subst hm
      simp [tri, val, wt, ct]

def nextK (n p thr over : Nat) (v : Vt) (S : List (List Sb)) (k : Nat) : List Sb :=
  mrg (S.getD k []) ((if k = 0 then [] else S.getD (k - 1) []).map (addS n p thr over v))
def nextS (n p thr over : Nat) (v : Vt) (S : List (List Sb)) : List (List Sb) := (List.range (p + 2)).map (nextK n p thr over v S)

theorem sorted_add {n p thr over : Nat} {v : Vt} {T : List Sb} (hT : ∀ s ∈ T, s.c ≤ over) (h : SortedC T) : SortedC (T.map (addS n p thr over v)) := by
  unfold SortedC at h ⊢
  rw [List.pairwise_map]
  refine h.imp_of_mem ?_
  intro a b ha hb hab
  simp only [addS]
  rw [addU_min (hT a ha), addU_min (hT b hb)]
  omega

theorem tri_false (n thr over : Nat) (ps : List Vt) (v : Vt) (m : List Bool) (hm : m.length = ps.length) (hn : ps.length < n) :
    tri n thr over (ps ++ [v]) (m ++ [false]) = tri n thr over ps m := by
  unfold tri
  rw [wt_append _ _ _ _ hm, ct_append _ _ _ _ hm, val_snoc, List.length_append]
  simp only [wt, ct, List.length_singleton, Bool.false_eq_true, if_false, Nat.add_zero]
  congr 1
  have e : n - m.length = (n - (m.length + 1)) + 1 := by omega
  rw [e, Nat.pow_succ]
  rw [Nat.mul_comm 2 (val m), Nat.mul_assoc, Nat.mul_comm 2]
theorem tri_true (n thr over : Nat) (ps : List Vt) (v : Vt) (m : List Bool) (hm : m.length = ps.length) (hn : ps.length < n) :
    tri n thr over (ps ++ [v]) (m ++ [true]) = addS n ps.length thr over v (tri n thr over ps m) := by
  unfold tri addS
  rw [wt_append _ _ _ _ hm, ct_append _ _ _ _ hm, val_snoc, List.length_append]
  simp only [wt, ct, List.length_singleton, if_true, Nat.add_zero]
  rw [addU_min (Nat.min_le_right _ _), addU_min (Nat.min_le_right _ _)]
  congr 1
  · have e : n - m.length = (n - (m.length + 1)) + 1 := by omega
    have e2 : n - 1 - ps.length = n - (m.length + 1) := by omega
    rw [e2, e, Nat.mul_comm (val m), ← Nat.two_pow_add_eq_or_of_lt (Nat.pow_lt_pow_right (by omega) (by omega)), Nat.pow_succ, Nat.add_mul, Nat.one_mul, Nat.mul_comm 2 (val m), Nat.mul_assoc, Nat.mul_comm (val m), Nat.mul_comm 2]
  · omega
  · omega

theorem snoc_of {m : List Bool} {p : Nat} (h : m.length = p + 1) : ∃ x b, m = x ++ [b] ∧ x.length = p := by
  refine ⟨m.dropLast, m.getLast (by intro e; subst e; simp at h), (List.dropLast_concat_getLast _).symm, ?_⟩
  simp [h]

theorem lists_step {n thr over : Nat} {ps : List Vt} {S : List (List Sb)} (v : Vt) (hn : ps.length < n) (h : Lists n thr over ps S) :
    Lists n thr over (ps ++ [v]) (nextS n ps.length thr over v S) := by
  obtain ⟨hl, h⟩ := h
  refine ⟨by simp [nextS], fun k T hT => ?_⟩
  have hk : k < ps.length + 2 := by
    rcases Nat.lt_or_ge k (ps.length + 2) with h | h
    · exact h
    · rw [List.getElem?_eq_none (by simpa [nextS] using h)] at hT; cases hT
  have eT : T = nextK n ps.length thr over v S k := by
    simp only [nextS, List.getElem?_map, List.getElem?_range hk, Option.map_some, Option.some.injEq] at hT
    exact hT.symm
  subst eT
  -- the list without, and the one with
  have hA : SortedC (S.getD k []) ∧ (S.getD k []).length ≤ 2 ^ ps.length ∧ ∀ s, s ∈ S.getD k [] ↔ ∃ m : List Bool, m.length = ps.length ∧ cnt m = k ∧ s = tri n thr over ps m := by
    by_cases hk1 : k < S.length
    · have := h k S[k] (List.getElem?_eq_getElem hk1)
      rw [List.getD_eq_getElem?_getD, List.getElem?_eq_getElem hk1]
      exact this
    · rw [List.getD_eq_getElem?_getD, List.getElem?_eq_none (by omega)]
      refine ⟨List.Pairwise.nil, by simp, fun s => ⟨fun hs => by simp at hs, ?_⟩⟩
      rintro ⟨m, hm, hc, _⟩
      have := cnt_le m
      omega
  have hB : SortedC (if k = 0 then [] else S.getD (k - 1) []) ∧ (if k = 0 then [] else S.getD (k - 1) []).length ≤ 2 ^ ps.length ∧ ∀ s, s ∈ (if k = 0 then [] else S.getD (k - 1) []) ↔ ∃ m : List Bool, m.length = ps.length ∧ cnt m + 1 = k ∧ s = tri n thr over ps m := by
    by_cases hk0 : k = 0
    · rw [if_pos hk0]
      refine ⟨List.Pairwise.nil, by simp, fun s => ⟨fun hs => by simp at hs, ?_⟩⟩
      rintro ⟨m, hm, hc, _⟩
      omega
    · rw [if_neg hk0]
      have hk1 : k - 1 < S.length := by omega
      have := h (k - 1) S[k - 1] (List.getElem?_eq_getElem hk1)
      rw [List.getD_eq_getElem?_getD, List.getElem?_eq_getElem hk1]
      refine ⟨this.1, this.2.1, fun s => (this.2.2 s).trans ?_⟩
      constructor
      · rintro ⟨m, h1, h2, h3⟩; exact ⟨m, h1, by omega, h3⟩
      · rintro ⟨m, h1, h2, h3⟩; exact ⟨m, h1, by omega, h3⟩
  obtain ⟨a1, a2, a3⟩ := hA
  obtain ⟨b1, b2, b3⟩ := hB
  unfold nextK
  refine ⟨sorted_mrg _ _ a1 (sorted_add (fun s hs => ?_) b1), ?_, fun s => ?_⟩
  · obtain ⟨m, _, _, rfl⟩ := (b3 s).mp hs
    simp only [tri]
    omega
  · rw [length_mrg, List.length_map, List.length_append, List.length_singleton, Nat.pow_succ]
    omega
  · rw [mem_mrg, List.mem_map]
    constructor
    · rintro (hs | ⟨s', hs', rfl⟩)
      · obtain ⟨m, h1, h2, rfl⟩ := (a3 s).mp hs
        exact ⟨m ++ [false], by simp [h1], by simp [cnt_append, cnt, h2], (tri_false n thr over ps v m h1 hn).symm⟩
      · obtain ⟨m, h1, h2, rfl⟩ := (b3 s').mp hs'
        exact ⟨m ++ [true], by simp [h1], by simp [cnt_append, cnt, h2], (tri_true n thr over ps v m h1 hn).symm⟩
    · rintro ⟨m, h1, h2, rfl⟩
      rw [List.length_append, List.length_singleton] at h1
      obtain ⟨x, b, rfl, hx⟩ := snoc_of h1
      rw [cnt_append] at h2
      cases b
      · exact .inl ((a3 _).mpr ⟨x, hx, by simpa [cnt] using h2, tri_false n thr over ps v x hx hn⟩)
      · exact .inr ⟨tri n thr over ps x, (b3 _).mpr ⟨x, hx, by simpa [cnt] using h2, rfl⟩, (tri_true n thr over ps v x hx hn).symm⟩

/-! the heaviest so far -/
def hvs : Nat → List Sb → List Nat
  | _, [] => []
  | a, s :: T => max a s.w :: hvs (max a s.w) T
theorem hvs_length : ∀ (T : List Sb) (a : Nat), (hvs a T).length = T.length
  | [], _ => rfl
  | s :: T, a => by simp [hvs, hvs_length T]
theorem hvs_iff {x : Nat} : ∀ (T : List Sb) (a j h : Nat), (hvs a T)[j]? = some h → (x ≤ h ↔ x ≤ a ∨ ∃ t ∈ T.take (j + 1), x ≤ t.w)
  | [], a, j, h, e => by simp [hvs] at e
  | s :: T, a, 0, h, e => by
    simp [hvs] at e
    subst e
    simp
    omega
  | s :: T, a, j + 1, h, e => by
    simp only [hvs, List.getElem?_cons_succ] at e
    rw [hvs_iff T _ j h e, List.take_succ_cons]
    simp only [List.mem_cons, exists_eq_or_imp]
    rw [show x ≤ max a s.w ↔ x ≤ a ∨ x ≤ s.w by omega, or_assoc]

/-! one of the first half and one of the second -/
def Fits (thr bud : Nat) (s t : Sb) : Prop := s.c ≤ bud ∧ t.c ≤ bud - s.c ∧ thr - s.w ≤ t.w

theorem fits_iff {thr bud over : Nat} (ho : bud < over) {a b : List Vt} {x y : List Bool} (hx : x.length = a.length) (hy : y.length = b.length) (n n' : Nat) :
    Fits thr bud (tri n thr over a x) (tri n' thr over b y) ↔ Feas (a ++ b) thr bud (x ++ y) := by
  unfold Fits Feas tri
  rw [wt_append _ _ _ _ hx, ct_append _ _ _ _ hx, List.length_append, List.length_append]
  dsimp only
  omega

theorem split_of {m : List Bool} {a b : List Vt} (h : m.length = (a ++ b).length) : ∃ x y, m = x ++ y ∧ x.length = a.length ∧ y.length = b.length := by
  rw [List.length_append] at h
  exact ⟨m.take a.length, m.drop a.length, (List.take_append_drop _ _).symm, by simp [h], by simp [h]⟩

theorem tri_m (thr over : Nat) (a : List Vt) (x : List Bool) (hx : x.length = a.length) : (tri a.length thr over a x).m = val x := by
  simp [tri, hx]

/-- the greatest mask of the first half that can be completed, at the least size, and the greatest that completes it, make the first quorum -/
theorem halves_first {thr bud over : Nat} (ho : bud < over) {a b : List Vt} {S1 S2 : List (List Sb)}
    (h1 : Lists a.length thr over a S1) (h2 : Lists b.length thr over b S2) (size : Nat)
    (hmin : ∀ j k T1 T2, j + k < size → S1[j]? = some T1 → S2[k]? = some T2 → ∀ s ∈ T1, ∀ t ∈ T2, ¬ Fits thr bud s t)
    (j k : Nat) (hjk : j + k = size) (T1 T2 : List Sb) (e1 : S1[j]? = some T1) (e2 : S2[k]? = some T2) (s t : Sb) (hs : s ∈ T1) (ht : t ∈ T2) (hst : Fits thr bud s t)
    (hmax : ∀ j' k' T1' T2' s' t', j' + k' = size → S1[j']? = some T1' → S2[k']? = some T2' → s' ∈ T1' → t' ∈ T2' → Fits thr bud s' t' → s'.m ≤ s.m)
    (hmax2 : ∀ t' ∈ T2, Fits thr bud s t' → t'.m ≤ t.m) :
    ∃ x y, x.length = a.length ∧ y.length = b.length ∧ s.m = val x ∧ t.m = val y ∧ cnt x = j ∧ IsFirst (a ++ b) thr bud (x ++ y) := by
  obtain ⟨l1, h1⟩ := h1
  obtain ⟨l2, h2⟩ := h2
  obtain ⟨x, hx, cx, rfl⟩ := ((h1 j T1 e1).2.2 s).mp hs
  obtain ⟨y, hy, cy, rfl⟩ := ((h2 k T2 e2).2.2 t).mp ht
  refine ⟨x, y, hx, hy, tri_m _ _ _ _ hx, tri_m _ _ _ _ hy, cx, (fits_iff ho hx hy _ _).mp hst, ?_⟩
  intro m f
  obtain ⟨x', y', rfl, hx', hy'⟩ := split_of f.1
  have f' := (fits_iff ho hx' hy' a.length b.length).mpr f
  have lx : cnt x' < S1.length := by have := cnt_le x'; omega
  have ly : cnt y' < S2.length := by have := cnt_le y'; omega
  have g1 := List.getElem?_eq_getElem lx
  have g2 := List.getElem?_eq_getElem ly
  have i1 := ((h1 _ _ g1).2.2 _).mpr ⟨x', hx', rfl, rfl⟩
  have i2 := ((h2 _ _ g2).2.2 _).mpr ⟨y', hy', rfl, rfl⟩
  rw [cnt_append, cnt_append]
  rcases Nat.lt_trichotomy (cnt x' + cnt y') size with hc | hc | hc
  · exact absurd f' (hmin _ _ _ _ hc g1 g2 _ i1 _ i2)
  · refine .inr ⟨by omega, ?_⟩
    have := hmax _ _ _ _ _ _ hc g1 g2 i1 i2 f'
    rw [tri_m _ _ _ _ hx, tri_m _ _ _ _ hx'] at this
    rw [val_append, val_append, hy, hy']
    rcases Nat.lt_or_eq_of_le this with hv | hv
    · have := val_lt y'
      rw [hy'] at this
      calc val x' * 2 ^ b.length + val y' ≤ val x' * 2 ^ b.length + 2 ^ b.length := by omega
        _ = (val x' + 1) * 2 ^ b.length := by rw [Nat.add_mul, Nat.one_mul]
        _ ≤ val x * 2 ^ b.length := Nat.mul_le_mul_right _ (by omega)
        _ ≤ _ := by omega
    · have := val_inj _ _ (by omega) hv
      subst this
      have hk : cnt y' = k := by omega
      have := hmax2 _ (((h2 k T2 e2).2.2 _).mpr ⟨y', hy', hk, rfl⟩) f'
      rw [tri_m _ _ _ _ hy, tri_m _ _ _ _ hy'] at this
      omega
  · exact .inl (by omega)

/-- where one set is feasible, some two subsets meet -/
theorem halves_some {thr bud over : Nat} (ho : bud < over) {a b : List Vt} {S1 S2 : List (List Sb)}
    (h1 : Lists a.length thr over a S1) (h2 : Lists b.length thr over b S2) (m : List Bool) (f : Feas (a ++ b) thr bud m) :
    ∃ j k T1 T2 s t, j ≤ a.length ∧ k ≤ b.length ∧ S1[j]? = some T1 ∧ S2[k]? = some T2 ∧ s ∈ T1 ∧ t ∈ T2 ∧ Fits thr bud s t := by
  obtain ⟨l1, h1⟩ := h1
  obtain ⟨l2, h2⟩ := h2
  obtain ⟨x', y', rfl, hx', hy'⟩ := split_of f.1
  have f' := (fits_iff ho hx' hy' a.length b.length).mpr f
  have cx := cnt_le x'
  have cy := cnt_le y'
  have lx : cnt x' < S1.length := by omega
  have ly : cnt y' < S2.length := by omega
  have g1 := List.getElem?_eq_getElem lx
  have g2 := List.getElem?_eq_getElem ly
  exact ⟨_, _, _, _, _, _, by omega, by omega, g1, g2, ((h1 _ _ g1).2.2 _).mpr ⟨x', hx', rfl, rfl⟩, ((h2 _ _ g2).2.2 _).mpr ⟨y', hy', rfl, rfl⟩, f'⟩

/-! the bits of a mask -/
theorem val_bit : ∀ (m : List Bool) (p : Nat) (b : Bool), m[p]? = some b → val m / 2 ^ (m.length - 1 - p) % 2 = if b then 1 else 0
  | [], p, b, h => by simp at h
  | c :: m, 0, b, h => by
    simp at h
    subst h
    have := val_lt m
    simp only [val, List.length_cons]
    rw [show m.length + 1 - 1 - 0 = m.length by omega]
    have hp : 0 < 2 ^ m.length := Nat.two_pow_pos _
    cases c
    · simp only [Bool.false_eq_true, if_false, Nat.zero_add]
      rw [Nat.div_eq_of_lt this]
    · simp only [if_true]
      rw [Nat.add_div_left _ hp, Nat.div_eq_of_lt this]
  | c :: m, p + 1, b, h => by
    simp only [List.getElem?_cons_succ] at h
    have hp : p < m.length := by
      rcases Nat.lt_or_ge p m.length with h' | h'
      · exact h'
      · rw [List.getElem?_eq_none h'] at h; cases h
    rw [← val_bit m p b h]
    simp only [val, List.length_cons]
    rw [show m.length + 1 - 1 - (p + 1) = m.length - 1 - p by omega]
    cases c
    · simp
    · simp only [if_true]
      have e : 2 ^ m.length = 2 ^ (m.length - 1 - p) * (2 * 2 ^ p) := by
        rw [← Nat.pow_succ', ← Nat.pow_add]
        congr 1
        omega
      rw [e, Nat.mul_add_div (Nat.two_pow_pos _)]
      rw [Nat.mul_add_mod]
end Go.Proofs.Qxb6608623a.Qm
