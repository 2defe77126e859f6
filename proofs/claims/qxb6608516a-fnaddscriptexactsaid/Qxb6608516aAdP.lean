/- THE PLAIN PART of the two laws on a script of adds: no Go in sight. A step is (category, (action, resource)). -/
namespace Go.Proofs.Qxb6608516a.Ad

abbrev Stp := Int × Int × Int

/-- x put at the list's end unless it is there -/
def addNew {α : Type} [DecidableEq α] (acc : List α) (x : α) : List α := if x ∈ acc then acc else acc ++ [x]
/-- the distinct ones, in the order of their first place -/
def distinct {α : Type} [DecidableEq α] (l : List α) : List α := l.foldl addNew []
theorem distinct_snoc {α : Type} [DecidableEq α] (l : List α) (x : α) : distinct (l ++ [x]) = addNew (distinct l) x := by
  simp [distinct, List.foldl_append]
theorem mem_addNew {α : Type} [DecidableEq α] (acc : List α) (x y : α) : y ∈ addNew acc x ↔ y ∈ acc ∨ y = x := by
  unfold addNew
  split
  · constructor
    · exact .inl
    · rintro (h | rfl)
      · exact h
      · assumption
  · simp
theorem mem_foldl {α : Type} [DecidableEq α] : ∀ (l acc : List α) (y : α), y ∈ l.foldl addNew acc ↔ y ∈ acc ∨ y ∈ l
  | [], acc, y => by simp
  | x :: l, acc, y => by
    rw [List.foldl_cons, mem_foldl l, mem_addNew, List.mem_cons, or_assoc]
theorem mem_distinct {α : Type} [DecidableEq α] (l : List α) (y : α) : y ∈ distinct l ↔ y ∈ l := by
  unfold distinct; rw [mem_foldl]; simp

def holdersOf (S : List Stp) : List Int := distinct (S.map (·.1))
def heldOf (S : List Stp) (c : Int) : List (Int × Int) := (S.filter (fun s => s.1 = c)).map (·.2)
/-- what has come, and of it the steps that repeat an earlier one -/
def repStep (p : List Stp × List Stp) (s : Stp) : List Stp × List Stp := (p.1 ++ [s], if s ∈ p.1 then p.2 ++ [s] else p.2)
def repsOf (S : List Stp) : List Stp := (S.foldl repStep ([], [])).2
def isWildStep (s : Stp) : Bool := s.2.1 == -1 || decide (s.2.2 < 0)
def wildOf (S : List Stp) : Bool := S.any isWildStep
def targetsOf (S : List Stp) : List (Int × Int) := S.map (·.2)

theorem rep_fst : ∀ (S : List Stp) (p : List Stp × List Stp), (S.foldl repStep p).1 = p.1 ++ S
  | [], p => by simp
  | s :: S, p => by rw [List.foldl_cons, rep_fst S]; simp [repStep]
theorem reps_snoc (S : List Stp) (s : Stp) : repsOf (S ++ [s]) = if s ∈ S then repsOf S ++ [s] else repsOf S := by
  unfold repsOf
  rw [List.foldl_append, List.foldl_cons, List.foldl_nil]
  show (if s ∈ (S.foldl repStep ([], [])).1 then _ else _) = _
  rw [rep_fst]
  simp
theorem held_snoc (S : List Stp) (s : Stp) (c : Int) : heldOf (S ++ [s]) c = if s.1 = c then heldOf S c ++ [s.2] else heldOf S c := by
  unfold heldOf
  rw [List.filter_append]
  by_cases h : s.1 = c <;> simp [h]
theorem held_nil_iff (S : List Stp) (c : Int) : heldOf S c = [] ↔ c ∉ S.map (·.1) := by
  unfold heldOf
  rw [List.map_eq_nil_iff, List.filter_eq_nil_iff]
  simp only [List.mem_map, not_exists, not_and, decide_eq_true_eq]
theorem holders_snoc (S : List Stp) (s : Stp) : holdersOf (S ++ [s]) = if heldOf S s.1 = [] then holdersOf S ++ [s.1] else holdersOf S := by
  unfold holdersOf
  rw [List.map_append, List.map_cons, List.map_nil, distinct_snoc]
  unfold addNew
  by_cases h : heldOf S s.1 = []
  · rw [if_pos h, if_neg (mt (mem_distinct _ _).1 ((held_nil_iff S s.1).1 h))]
  · rw [if_neg h, if_pos ((mem_distinct _ _).2 (Decidable.not_not.1 (mt (held_nil_iff S s.1).2 h)))]
theorem wild_snoc (S : List Stp) (s : Stp) : wildOf (S ++ [s]) = (wildOf S || isWildStep s) := by simp [wildOf]

theorem length_addNew {α : Type} [DecidableEq α] (acc : List α) (x : α) : (addNew acc x).length = if x ∈ acc then acc.length else acc.length + 1 := by
  unfold addNew; split <;> simp
theorem length_foldl_le {α : Type} [DecidableEq α] : ∀ (l acc : List α), (l.foldl addNew acc).length ≤ acc.length + l.length
  | [], acc => by simp
  | x :: l, acc => by
    rw [List.foldl_cons]
    have h1 := length_foldl_le l (addNew acc x)
    have h2 := length_addNew acc x
    split at h2 <;> simp only [List.length_cons] <;> omega
theorem length_distinct_le {α : Type} [DecidableEq α] (l : List α) : (distinct l).length ≤ l.length := by
  have := length_foldl_le l []
  simpa [distinct] using this
theorem holders_le (S : List Stp) : (holdersOf S).length ≤ S.length := by
  have := length_distinct_le (S.map (·.1))
  simpa [holdersOf] using this
theorem held_le (S : List Stp) (c : Int) : (heldOf S c).length ≤ S.length := by
  unfold heldOf; rw [List.length_map]; exact List.length_filter_le _ _
theorem reps_fold_le : ∀ (S : List Stp) (p : List Stp × List Stp), (S.foldl repStep p).2.length ≤ p.2.length + S.length
  | [], p => by simp
  | s :: S, p => by
    rw [List.foldl_cons]
    have h := reps_fold_le S (repStep p s)
    have h2 : (repStep p s).2.length ≤ p.2.length + 1 := by
      unfold repStep
      dsimp only
      split <;> simp
    simp only [List.length_cons]
    omega
theorem reps_le (S : List Stp) : (repsOf S).length ≤ S.length := by
  have := reps_fold_le S ([], [])
  simpa [repsOf] using this
end Go.Proofs.Qxb6608516a.Ad
