/- The plain part: white space, and where skipping it lands. No Go in sight. -/
namespace Go.Proofs.Qxb6608652a.Sk

def ws (x : Int) : Bool := x == 32 || x == 9 || x == 13 || x == 10

/-- r is where skipping white space from i on lands -/
structure IsSkip (xs : List Int) (i r : Nat) : Prop where
  lo : i ≤ r
  hi : r ≤ xs.length
  all : ∀ k, i ≤ k → k < r → ws (xs.getD k 0) = true
  stop : r < xs.length → ws (xs.getD r 0) = false

theorem IsSkip.uniq {xs : List Int} {i r s : Nat} (h : IsSkip xs i r) (g : IsSkip xs i s) : r = s := by
  by_cases h1 : r < s
  · have a := h.stop (by have := g.hi; omega)
    have b := g.all r h.lo h1
    rw [a] at b; cases b
  by_cases h2 : s < r
  · have a := g.stop (by have := h.hi; omega)
    have b := h.all s g.lo h2
    rw [a] at b; cases b
  omega

theorem getD_take (xs : List Int) (c k : Nat) (h : k < c) : (xs.take c).getD k 0 = xs.getD k 0 := by
  simp [List.getD, h]
theorem getD_drop (xs : List Int) (c k : Nat) : (xs.drop c).getD k 0 = xs.getD (c + k) 0 := by
  simp [List.getD, List.getElem?_drop]

theorem cut_left {xs : List Int} {i c r : Nat} (hc : c ≤ xs.length) (h : IsSkip (xs.take c) i r) (hr : r < c) : IsSkip xs i r := by
  have hl : (xs.take c).length = c := by simp; omega
  refine ⟨h.lo, by omega, fun k h1 h2 => ?_, fun _ => ?_⟩
  · rw [← getD_take xs c k (by omega)]; exact h.all k h1 h2
  · rw [← getD_take xs c r hr]; exact h.stop (by omega)

theorem cut_on {xs : List Int} {i c r s : Nat} (hc : c ≤ xs.length) (h : IsSkip (xs.take c) i r) (hr : c ≤ r) (g : IsSkip (xs.drop c) 0 s) : IsSkip xs i (c + s) := by
  have hl : (xs.take c).length = c := by simp; omega
  have hd : (xs.drop c).length = xs.length - c := by simp
  have h1 := h.hi
  have h2 := g.hi
  have h3 := h.lo
  refine ⟨by omega, by omega, fun k k1 k2 => ?_, fun q => ?_⟩
  · by_cases hk : k < c
    · rw [← getD_take xs c k hk]; exact h.all k k1 (by omega)
    · have := g.all (k - c) (by omega) (by omega)
      rw [getD_drop, show c + (k - c) = k by omega] at this
      exact this
  · have := g.stop (by omega)
    rw [getD_drop] at this
    exact this

theorem cut_right {xs : List Int} {i c s : Nat} (hc : c ≤ xs.length) (hi : c ≤ i) (g : IsSkip (xs.drop c) (i - c) s) : IsSkip xs i (c + s) := by
  have hd : (xs.drop c).length = xs.length - c := by simp
  have h2 := g.hi
  have h3 := g.lo
  refine ⟨by omega, by omega, fun k k1 k2 => ?_, fun q => ?_⟩
  · have := g.all (k - c) (by omega) (by omega)
    rw [getD_drop, show c + (k - c) = k by omega] at this
    exact this
  · have := g.stop (by omega)
    rw [getD_drop] at this
    exact this

theorem getD_ins (xs vs : List Int) (p k : Nat) (hp : p ≤ xs.length) : (xs.take p ++ vs ++ xs.drop p).getD k 0 =
    if k < p then xs.getD k 0 else if k < p + vs.length then vs.getD (k - p) 0 else xs.getD (k - vs.length) 0 := by
  have hl : (xs.take p).length = p := by simp; omega
  simp only [List.getD]
  by_cases h1 : k < p
  · rw [if_pos h1, List.append_assoc, List.getElem?_append_left (by omega), List.getElem?_take, if_pos h1]
  · rw [if_neg h1]
    by_cases h2 : k < p + vs.length
    · rw [if_pos h2, List.getElem?_append_left (by simp; omega), List.getElem?_append_right (by omega), hl]
    · rw [if_neg h2, List.getElem?_append_right (by simp; omega), List.getElem?_drop]
      congr 2
      simp
      omega

theorem ins_at {xs vs : List Int} {i p r : Nat} (hp : p ≤ xs.length) (hi : i ≤ p) (h : IsSkip xs i r) (hv : ∀ k, k < vs.length → ws (vs.getD k 0) = true) (hr : p ≤ r) :
    IsSkip (xs.take p ++ vs ++ xs.drop p) i (r + vs.length) := by
  have hl : (xs.take p ++ vs ++ xs.drop p).length = xs.length + vs.length := by simp; omega
  have h1 := h.hi
  refine ⟨by omega, by omega, fun k k1 k2 => ?_, fun q => ?_⟩
  · rw [getD_ins _ _ _ _ hp]
    split
    · exact h.all k k1 (by omega)
    · split
      · exact hv _ (by omega)
      · exact h.all _ (by omega) (by omega)
  · rw [getD_ins _ _ _ _ hp, if_neg (by omega), if_neg (by omega), show r + vs.length - vs.length = r by omega]
    exact h.stop (by omega)

theorem ins_past {xs vs : List Int} {i p r : Nat} (hp : p ≤ xs.length) (h : IsSkip xs i r) (hr : r < p) :
    IsSkip (xs.take p ++ vs ++ xs.drop p) i r := by
  have hl : (xs.take p ++ vs ++ xs.drop p).length = xs.length + vs.length := by simp; omega
  have h1 := h.hi
  refine ⟨h.lo, by omega, fun k k1 k2 => ?_, fun q => ?_⟩
  · rw [getD_ins _ _ _ _ hp, if_pos (by omega)]
    exact h.all k k1 k2
  · rw [getD_ins _ _ _ _ hp, if_pos hr]
    exact h.stop (by omega)
end Go.Proofs.Qxb6608652a.Sk
