/- THE PLAIN LAWS on scripts: a script told twice; what a prefix of a script has made. No Go in sight. -/
import Derived.Test.Qxb6608516aAdP
namespace Go.Proofs.Qxb6608516a.Ad

theorem foldl_mem {α : Type} [DecidableEq α] : ∀ (M acc : List α), (∀ x ∈ M, x ∈ acc) → M.foldl addNew acc = acc
  | [], acc, _ => rfl
  | x :: M, acc, h => by
    have hx : addNew acc x = acc := by unfold addNew; rw [if_pos (h x (by simp))]
    rw [List.foldl_cons, hx]
    exact foldl_mem M acc (fun y hy => h y (by simp [hy]))
theorem distinct_twice {α : Type} [DecidableEq α] (L M : List α) (h : ∀ x ∈ M, x ∈ L) : distinct (L ++ M) = distinct L := by
  unfold distinct
  rw [List.foldl_append]
  exact foldl_mem M _ (fun x hx => (mem_distinct L x).2 (h x hx))
theorem holders_twice (S : List Stp) : holdersOf (S ++ S) = holdersOf S := by
  unfold holdersOf
  rw [List.map_append]
  exact distinct_twice _ _ (fun x hx => hx)
theorem held_twice (S : List Stp) (c : Int) : heldOf (S ++ S) c = heldOf S c ++ heldOf S c := by
  unfold heldOf
  rw [List.filter_append, List.map_append]
theorem reps_mem : ∀ (M S : List Stp), (∀ x ∈ M, x ∈ S) → repsOf (S ++ M) = repsOf S ++ M
  | [], S, _ => by simp
  | x :: M, S, h => by
    have e : S ++ x :: M = (S ++ [x]) ++ M := by simp
    rw [e, reps_mem M (S ++ [x]) (fun y hy => by simp [h y (by simp [hy])]), reps_snoc, if_pos (h x (by simp))]
    simp
theorem reps_twice (S : List Stp) : repsOf (S ++ S) = repsOf S ++ S := reps_mem S S (fun _ hx => hx)
theorem wild_twice (S : List Stp) : wildOf (S ++ S) = wildOf S := by simp [wildOf]
theorem distinct_same (S : List Stp) : distinct (S ++ S) = distinct S := distinct_twice S S (fun _ hx => hx)
theorem targets_twice (S : List Stp) : distinct (targetsOf (S ++ S)) = distinct (targetsOf S) := by
  unfold targetsOf
  rw [List.map_append]
  exact distinct_twice _ _ (fun x hx => hx)

/-- what each step makes stays: a prefix of the script has made a prefix -/
theorem holders_prefix : ∀ (Q P : List Stp), ∃ T, holdersOf (P ++ Q) = holdersOf P ++ T
  | [], P => ⟨[], by simp⟩
  | s :: Q, P => by
    obtain ⟨T, hT⟩ := holders_prefix Q (P ++ [s])
    rw [show P ++ s :: Q = (P ++ [s]) ++ Q by simp, hT, holders_snoc]
    split
    · exact ⟨s.1 :: T, by simp⟩
    · exact ⟨T, rfl⟩
theorem held_prefix (Q P : List Stp) (c : Int) : ∃ T, heldOf (P ++ Q) c = heldOf P c ++ T := by
  unfold heldOf
  rw [List.filter_append, List.map_append]
  exact ⟨_, rfl⟩
theorem reps_prefix : ∀ (Q P : List Stp), ∃ T, repsOf (P ++ Q) = repsOf P ++ T
  | [], P => ⟨[], by simp⟩
  | s :: Q, P => by
    obtain ⟨T, hT⟩ := reps_prefix Q (P ++ [s])
    rw [show P ++ s :: Q = (P ++ [s]) ++ Q by simp, hT, reps_snoc]
    split
    · exact ⟨s :: T, by simp⟩
    · exact ⟨T, rfl⟩

section
variable {S : List Stp} {i : Nat} {s : Stp}
theorem take_snoc' (h : S[i]? = some s) : S.take (i + 1) = S.take i ++ [s] := by
  obtain ⟨hi, e⟩ := List.getElem?_eq_some_iff.1 h
  rw [List.take_succ_eq_append_getElem hi, e]
theorem split_at (h : S[i]? = some s) : S = (S.take i ++ [s]) ++ S.drop (i + 1) := by
  rw [← take_snoc' h, List.take_append_drop]
theorem get_after {α : Type} (L T : List α) (x : α) : (L ++ [x] ++ T)[L.length]? = some x := by simp

/-- the category's first step: the next holder is this one -/
theorem holder_next (h : S[i]? = some s) (hn : heldOf (S.take i) s.1 = []) : (holdersOf S)[(holdersOf (S.take i)).length]? = some s.1 ∧ (holdersOf (S.take (i + 1))).length = (holdersOf (S.take i)).length + 1 := by
  obtain ⟨T, hT⟩ := holders_prefix (S.drop (i + 1)) (S.take i ++ [s])
  rw [← split_at h, holders_snoc, if_pos hn] at hT
  constructor
  · rw [hT]; exact get_after _ _ _
  · rw [take_snoc' h, holders_snoc, if_pos hn]; simp
theorem holder_same (h : S[i]? = some s) (hn : ¬ heldOf (S.take i) s.1 = []) : holdersOf (S.take (i + 1)) = holdersOf (S.take i) := by
  rw [take_snoc' h, holders_snoc, if_neg hn]
theorem held_at (h : S[i]? = some s) : (heldOf S s.1)[(heldOf (S.take i) s.1).length]? = some s.2 := by
  obtain ⟨T, hT⟩ := held_prefix (S.drop (i + 1)) (S.take i ++ [s]) s.1
  rw [← split_at h, held_snoc, if_pos rfl] at hT
  rw [hT]; exact get_after _ _ _
theorem rep_at (h : S[i]? = some s) (hn : s ∈ S.take i) : (repsOf S)[(repsOf (S.take i)).length]? = some s ∧ (repsOf (S.take (i + 1))).length = (repsOf (S.take i)).length + 1 := by
  obtain ⟨T, hT⟩ := reps_prefix (S.drop (i + 1)) (S.take i ++ [s])
  rw [← split_at h, reps_snoc, if_pos hn] at hT
  constructor
  · rw [hT]; exact get_after _ _ _
  · rw [take_snoc' h, reps_snoc, if_pos hn]; simp
theorem rep_same (h : S[i]? = some s) (hn : ¬ s ∈ S.take i) : repsOf (S.take (i + 1)) = repsOf (S.take i) := by
  rw [take_snoc' h, reps_snoc, if_neg hn]
theorem distinct_new (h : S[i]? = some s) : (distinct (S.take (i + 1))).length = (distinct (S.take i)).length + if s ∈ S.take i then 0 else 1 := by
  rw [take_snoc' h, distinct_snoc, length_addNew]
  by_cases hm : s ∈ S.take i
  · rw [if_pos ((mem_distinct _ _).2 hm), if_pos hm]; rfl
  · rw [if_neg (fun q => hm ((mem_distinct _ _).1 q)), if_neg hm]
theorem targets_new (h : S[i]? = some s) : (distinct (targetsOf (S.take (i + 1)))).length = (distinct (targetsOf (S.take i))).length + if s.2 ∈ targetsOf (S.take i) then 0 else 1 := by
  have e : targetsOf (S.take i ++ [s]) = targetsOf (S.take i) ++ [s.2] := by simp [targetsOf]
  rw [take_snoc' h, e, distinct_snoc, length_addNew]
  by_cases hm : s.2 ∈ targetsOf (S.take i)
  · rw [if_pos ((mem_distinct _ _).2 hm), if_pos hm]; rfl
  · rw [if_neg (fun q => hm ((mem_distinct _ _).1 q)), if_neg hm]
theorem wild_new (h : S[i]? = some s) : wildOf (S.take (i + 1)) = (wildOf (S.take i) || isWildStep s) := by
  rw [take_snoc' h, wild_snoc]
end

/-- the held lists of all categories together are as long as the script -/
def totalTo (S : List Stp) : Nat → Nat
  | 0 => 0
  | c + 1 => totalTo S c + (heldOf S c).length
theorem total_eq (S : List Stp) : ∀ n : Nat, totalTo S n = (S.filter (fun s => decide (0 ≤ s.1) && decide (s.1 < (n : Int)))).length
  | 0 => by
    have : (S.filter (fun s => decide (0 ≤ s.1) && decide (s.1 < ((0 : Nat) : Int)))) = [] := by
      rw [List.filter_eq_nil_iff]
      intro s _
      simp
    rw [this]; rfl
  | n + 1 => by
    rw [totalTo, total_eq S n]
    unfold heldOf
    rw [List.length_map]
    induction S with
    | nil => rfl
    | cons s S ih =>
      simp only [List.filter_cons]
      by_cases h1 : s.1 = (n : Int)
      · have a1 : (decide (0 ≤ s.1) && decide (s.1 < (n : Int))) = false := by simp; omega
        have a2 : (decide (0 ≤ s.1) && decide (s.1 < ((n + 1 : Nat) : Int))) = true := by simp; omega
        rw [a1, a2]
        simp [h1] at ih ⊢
        omega
      · by_cases h2 : 0 ≤ s.1 ∧ s.1 < (n : Int)
        · have a1 : (decide (0 ≤ s.1) && decide (s.1 < (n : Int))) = true := by simp; omega
          have a2 : (decide (0 ≤ s.1) && decide (s.1 < ((n + 1 : Nat) : Int))) = true := by simp; omega
          rw [a1, a2]
          simp [h1] at ih ⊢
          omega
        · have a1 : (decide (0 ≤ s.1) && decide (s.1 < (n : Int))) = false := by simp; omega
          have a2 : (decide (0 ≤ s.1) && decide (s.1 < ((n + 1 : Nat) : Int))) = false := by simp; omega
          rw [a1, a2]
          simp [h1] at ih ⊢
          omega
theorem total_all (S : List Stp) (n : Nat) (h : ∀ s ∈ S, 0 ≤ s.1 ∧ s.1 < (n : Int)) : totalTo S n = S.length := by
  rw [total_eq, List.filter_eq_self.2]
  intro s hs
  have := h s hs
  simp
  omega
theorem total_le (S : List Stp) (n : Nat) : totalTo S n ≤ S.length := by
  rw [total_eq]; exact List.length_filter_le _ _
end Go.Proofs.Qxb6608516a.Ad
