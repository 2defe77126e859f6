/- THE LAW's LOOPS: their relations, and the rows in memory. -/
import Derived.Test.Qxb6608623aQmY
import Derived.Test.Qxb6608623aQmE
namespace Go.Proofs.Qxb6608623a.qm2
open Go.RowKit
open Go.Proofs.Qxb6608623a.Qm
open Go.Proofs.Qxb6608623a.qmW
open Go.Proofs.Qxb6608623a.qmS
open Go.Proofs.Qxb6608623a.qmI
open Go.Proofs.Qxb6608623a.qmR
open Go.Proofs.Qxb6608623a.qmL
open Go.Proofs.Qxb6608623a.qmV
open Go.Proofs.Qxb6608623a.qmX
open Go.Proofs.Qxb6608623a.qmQ
open Go.Proofs.Qxb6608623a.qmY
set_option linter.unusedVariables false
set_option linter.unusedSimpArgs false

theorem info3 : (Try.prog.info? 3).map (fun i => (i.zero, i.size, i.bytes)) = some (some (.int .i64 0), 1, 8) := by kernel_rfl
theorem info29 : (Try.prog.info? 29).map (fun i => (i.zero, i.size, i.bytes)) = some (some (.agg #[.string ⟨#[]⟩, .int .u64 0, .int .u64 0]), 3, 32) := by kernel_rfl

/-- a row of one-cell values that is not empty: its form and its cells -/
theorem own_get {w : World} {B k : Nat} {e : TypeId} {v : Value} {xs : List Value} (h : w.ownsRow B e 1 v k xs) (hk : 0 < k) :
    ∃ g cp, v = .slice (some ⟨g, 0, none⟩) k cp ∧ B ≤ g ∧ g < w.heap.size ∧ ∀ i x, xs[i]? = some x → w.cell? ⟨g, i, none⟩ = some x := by
  obtain ⟨hl, ⟨h, hx⟩ | ⟨g', cap, cur, h, hB, hh, hle, _, hsz, ht⟩⟩ := h
  · subst hx
    simp at hl
    omega
  · refine ⟨g', cap, h, hB, lt_of_some hh, fun i x hi => ?_⟩
    have hi' := (List.getElem?_eq_some_iff.1 hi).1
    rw [hl] at hi'
    rw [← ht, List.getElem?_take_of_lt (by omega)] at hi
    simp only [World.cell?, hh]
    simpa using hi
/-- a row of voters -/
theorem own_vtE {w : World} {B e g cp : Nat} {T : List Vt} (h : w.ownsRow B e 3 (.slice (some ⟨g, 0, none⟩) T.length cp) T.length (vtCells T)) : (∀ i v, T[i]? = some v → VtAt w g 0 i v) ∧ T.length ≤ cp ∧ g < w.heap.size ∧ B ≤ g := by
  rcases h.2 with ⟨h, _⟩ | ⟨g', cap, cur, h, hB, hh, hle, _, hsz, ht⟩
  · simp at h
  · simp only [Value.slice.injEq, Option.some.injEq, Addr.mk.injEq] at h
    obtain ⟨⟨rfl, _⟩, _, rfl⟩ := h
    refine ⟨fun i v hi => ?_, hle, lt_of_some hh, hB⟩
    have hi' := (List.getElem?_eq_some_iff.1 hi).1
    have := vtCells_get T i v hi
    rw [← ht] at this
    rw [List.getElem?_take_of_lt (by omega), List.getElem?_take_of_lt (by omega), List.getElem?_take_of_lt (by omega)] at this
    unfold VtAt
    simp only [World.cell?, hh, Nat.zero_add]
    simpa using this
theorem own_vs {w : World} {B e : Nat} {ao : Option Addr} {cp : Nat} {T : List Vt} (h : w.ownsRow B e 3 (.slice ao T.length cp) T.length (vtCells T)) : Vs w ao T := by
  intro i v hi
  have h0 := h
  rcases h.2 with ⟨h, hx⟩ | ⟨g', cap, cur, h, hB, hh, hle, _, hsz, ht⟩
  · simp only [Value.slice.injEq] at h
    have := (List.getElem?_eq_some_iff.1 hi).1
    omega
  · simp only [Value.slice.injEq] at h
    obtain ⟨rfl, _, rfl⟩ := h
    exact ⟨g', 0, rfl, lt_of_some hh, (own_vtE h0).1 i v hi⟩
theorem idCells_get {S : List Vt} {i : Nat} {v : Vt} (h : S[i]? = some v) : (idCells S)[i]? = some (.string v.id) := by simp [idCells, h]
/-- cells of a row of places -/
def atCells (P : List Nat) : List Value := P.map fun (p : Nat) => .int .i64 (p : Int)
theorem atCells_get {P : List Nat} {i p : Nat} (h : P[i]? = some p) : (atCells P)[i]? = some (.int .i64 (p : Int)) := by simp [atCells, h]

/-- the sums so far -/
def SumR (vs : List Vt) (n thr over : Nat) (w1 : World) (wv cv iv : Value) (wq : World) : Prop := ∃ i : Nat, i ≤ n ∧ wv = .int .u64 (min (sw (vs.take i)) thr : Nat) ∧ cv = .int .u64 (min (sc (vs.take i)) over : Nat) ∧ iv = .int .i64 i ∧ w1 = wq
theorem SumR.opened {vs : List Vt} {n thr over : Nat} {w1 : World} {wv cv iv : Value} {wq : World} (h : SumR vs n thr over w1 wv cv iv wq) : ∃ i : Nat, i ≤ n ∧ wv = .int .u64 (min (sw (vs.take i)) thr : Nat) ∧ cv = .int .u64 (min (sc (vs.take i)) over : Nat) ∧ iv = .int .i64 i ∧ w1 = wq := h
theorem SumR.start (vs : List Vt) (n thr over : Nat) (w1 : World) : SumR vs n thr over w1 (.int .u64 0) (.int .u64 0) (.int .i64 0) w1 := ⟨0, Nat.zero_le _, by simp [sw], by simp [sc], rfl, rfl⟩
theorem SumR.step {vs : List Vt} {n thr over i x y : Nat} {v : Vt} (w1 : World) (hi : i < n) (hT : vs.take (i + 1) = vs.take i ++ [v]) (hx : x = min (sw (vs.take i)) thr) (hy : y = min (sc (vs.take i)) over) :
    SumR vs n thr over w1 (.int .u64 (addU x v.w thr : Nat)) (.int .u64 (addU y v.c over : Nat)) (.int .i64 ((i : Int) + 1)) w1 := by
  refine ⟨i + 1, hi, ?_, ?_, by simp, rfl⟩
  · rw [hT, sw_append, addU_min (by omega)]
    simp only [sw]
    congr 2
    omega
  · rw [hT, sc_append, addU_min (by omega)]
    simp only [sc]
    congr 2
    omega
attribute [irreducible] SumR

/-- the places found so far -/
def AtR (m : List Bool) (n k : Nat) (w2 : World) (av jv gv : Value) (wq : World) : Prop := ∃ i j : Nat, i ≤ k ∧ gv = .int .i64 i ∧ jv = .int .i64 j ∧ j ≤ n ∧ (∀ p, (plc 0 m)[i]? = some p → j ≤ p) ∧ wq.ownsRow w2.heap.size 3 1 av i (atCells ((plc 0 m).take i)) ∧ Below w2.heap.size w2 wq
theorem AtR.opened {m : List Bool} {n k : Nat} {w2 : World} {av jv gv : Value} {wq : World} (h : AtR m n k w2 av jv gv wq) : ∃ i j : Nat, i ≤ k ∧ gv = .int .i64 i ∧ jv = .int .i64 j ∧ j ≤ n ∧ (∀ p, (plc 0 m)[i]? = some p → j ≤ p) ∧ wq.ownsRow w2.heap.size 3 1 av i (atCells ((plc 0 m).take i)) ∧ Below w2.heap.size w2 wq := h
theorem AtR.start {m : List Bool} {n k : Nat} {w2 wq : World} {av : Value} (h : wq.ownsRow w2.heap.size 3 1 av 0 []) (hb : Below w2.heap.size w2 wq) : AtR m n k w2 av (.int .i64 0) (.int .i64 0) wq :=
  ⟨0, 0, Nat.zero_le _, rfl, rfl, Nat.zero_le _, fun _ _ => Nat.zero_le _, by simpa [atCells] using h, hb⟩
theorem AtR.step {m : List Bool} {n k i p : Nat} {w2 wq : World} {av : Value} (hi : i < k) (hp : (plc 0 m)[i]? = some p) (hpn : p < n) (h : wq.ownsRow w2.heap.size 3 1 av (i + 1) (atCells ((plc 0 m).take i) ++ [.int .i64 (p : Int)])) (hb : Below w2.heap.size w2 wq) :
    AtR m n k w2 av (.int .i64 ((p : Int) + 1)) (.int .i64 ((i : Int) + 1)) wq := by
  refine ⟨i + 1, p + 1, hi, by simp, by simp, hpn, fun q hq => ?_, ?_, hb⟩
  · have h1 := List.getElem?_eq_some_iff.1 hp
    have h2 := List.getElem?_eq_some_iff.1 hq
    have := List.pairwise_iff_getElem.1 (plc_sorted 0 m) i (i + 1) h1.1 h2.1 (by omega)
    rw [h1.2, h2.2] at this
    omega
  · rw [List.take_add_one, hp]
    simpa [atCells] using h
attribute [irreducible] AtR
/-- looking for the next place -/
def JR (xs : List Value) (i p : Nat) (w2 : World) (av jv : Value) (wq : World) : Prop := ∃ j : Nat, j ≤ p ∧ jv = .int .i64 j ∧ wq.ownsRow w2.heap.size 3 1 av i xs ∧ Below w2.heap.size w2 wq
theorem JR.opened {xs : List Value} {i p : Nat} {w2 : World} {av jv : Value} {wq : World} (h : JR xs i p w2 av jv wq) : ∃ j : Nat, j ≤ p ∧ jv = .int .i64 j ∧ wq.ownsRow w2.heap.size 3 1 av i xs ∧ Below w2.heap.size w2 wq := h
theorem JR.start {xs : List Value} {i p j : Nat} {w2 : World} {av : Value} {wq : World} (hj : j ≤ p) (h : wq.ownsRow w2.heap.size 3 1 av i xs) (hb : Below w2.heap.size w2 wq) : JR xs i p w2 av (.int .i64 (j : Int)) wq := ⟨j, hj, rfl, h, hb⟩
theorem JR.step {xs : List Value} {i p j : Nat} {w2 : World} {av : Value} {wq : World} (hj : j < p) (h : wq.ownsRow w2.heap.size 3 1 av i xs) (hb : Below w2.heap.size w2 wq) : JR xs i p w2 av (.int .i64 ((j : Int) + 1)) wq := ⟨j + 1, hj, by simp, h, hb⟩
attribute [irreducible] JR
/-- the weight of all but one -/
def RsR (S : List Vt) (k l thr : Nat) (w3 : World) (rv iv : Value) (wq : World) : Prop := ∃ i : Nat, i ≤ k ∧ rv = .int .u64 (min (sw ((S.take i).eraseIdx l)) thr : Nat) ∧ iv = .int .i64 i ∧ w3 = wq
theorem RsR.opened {S : List Vt} {k l thr : Nat} {w3 : World} {rv iv : Value} {wq : World} (h : RsR S k l thr w3 rv iv wq) : ∃ i : Nat, i ≤ k ∧ rv = .int .u64 (min (sw ((S.take i).eraseIdx l)) thr : Nat) ∧ iv = .int .i64 i ∧ w3 = wq := h
theorem RsR.start (S : List Vt) (k l thr : Nat) (w3 : World) : RsR S k l thr w3 (.int .u64 0) (.int .i64 0) w3 := ⟨0, Nat.zero_le _, by simp [sw], rfl, rfl⟩
theorem RsR.step {S : List Vt} {k l thr i x : Nat} {v : Vt} (w3 : World) (hi : i < k) (hv : S[i]? = some v) (hne : i ≠ l) (hx : x = min (sw ((S.take i).eraseIdx l)) thr) : RsR S k l thr w3 (.int .u64 (addU x v.w thr : Nat)) (.int .i64 ((i : Int) + 1)) w3 := by
  refine ⟨i + 1, hi, ?_, by simp, rfl⟩
  rw [rest_step hv hne, sw_append, addU_min (by omega)]
  simp only [sw]
  congr 2
  omega
theorem RsR.skip {S : List Vt} {k thr i x : Nat} {v : Vt} (w3 : World) (hi : i < k) (hv : S[i]? = some v) (hx : x = min (sw ((S.take i).eraseIdx i)) thr) : RsR S k i thr w3 (.int .u64 (x : Nat)) (.int .i64 ((i : Int) + 1)) w3 := by
  refine ⟨i + 1, hi, ?_, by simp, rfl⟩
  rw [rest_skip hv, hx]
attribute [irreducible] RsR
/-- a counter alone -/
def LvR (k : Nat) (w3 : World) (lv : Value) (wq : World) : Prop := ∃ l : Nat, l ≤ k ∧ lv = .int .i64 l ∧ w3 = wq
theorem LvR.opened {k : Nat} {w3 : World} {lv : Value} {wq : World} (h : LvR k w3 lv wq) : ∃ l : Nat, l ≤ k ∧ lv = .int .i64 l ∧ w3 = wq := h
theorem LvR.start (k : Nat) (w3 : World) : LvR k w3 (.int .i64 0) w3 := ⟨0, Nat.zero_le _, rfl, rfl⟩
theorem LvR.step {k l : Nat} (w3 : World) (h : l < k) : LvR k w3 (.int .i64 ((l : Int) + 1)) w3 := ⟨l + 1, h, by simp, rfl⟩
attribute [irreducible] LvR
/-- is it among the places -/
def DrR (P : List Nat) (k d : Nat) (w3 : World) (dv iv : Value) (wq : World) : Prop := ∃ (i : Nat) (f : Bool), i ≤ k ∧ dv = .bool f ∧ (f = true ↔ d ∈ P.take i) ∧ iv = .int .i64 i ∧ w3 = wq
theorem DrR.opened {P : List Nat} {k d : Nat} {w3 : World} {dv iv : Value} {wq : World} (h : DrR P k d w3 dv iv wq) : ∃ (i : Nat) (f : Bool), i ≤ k ∧ dv = .bool f ∧ (f = true ↔ d ∈ P.take i) ∧ iv = .int .i64 i ∧ w3 = wq := h
theorem DrR.start (P : List Nat) (k d : Nat) (w3 : World) : DrR P k d w3 (.bool false) (.int .i64 0) w3 := ⟨0, false, Nat.zero_le _, rfl, by simp, rfl, rfl⟩
theorem DrR.hit {P : List Nat} {k d i : Nat} (w3 : World) (hi : i < k) (hp : P[i]? = some d) : DrR P k d w3 (.bool true) (.int .i64 ((i : Int) + 1)) w3 := by
  refine ⟨i + 1, true, hi, rfl, ?_, by simp, rfl⟩
  rw [List.take_add_one, hp]
  simp
theorem DrR.miss {P : List Nat} {k d i p : Nat} {f : Bool} (w3 : World) (hi : i < k) (hp : P[i]? = some p) (hne : p ≠ d) (hf : f = true ↔ d ∈ P.take i) : DrR P k d w3 (.bool f) (.int .i64 ((i : Int) + 1)) w3 := by
  refine ⟨i + 1, f, hi, rfl, ?_, by simp, rfl⟩
  rw [List.take_add_one, hp, hf]
  simp [Ne.symm hne]
attribute [irreducible] DrR
/-- the rest of the voters, laid one by one -/
def ReR (vs : List Vt) (n d : Nat) (w4 : World) (rv iv : Value) (wq : World) : Prop := ∃ i : Nat, i ≤ n ∧ iv = .int .i64 i ∧ wq.ownsRow w4.heap.size 29 3 rv ((vs.take i).eraseIdx d).length (vtCells ((vs.take i).eraseIdx d)) ∧ Below w4.heap.size w4 wq
theorem ReR.opened {vs : List Vt} {n d : Nat} {w4 : World} {rv iv : Value} {wq : World} (h : ReR vs n d w4 rv iv wq) : ∃ i : Nat, i ≤ n ∧ iv = .int .i64 i ∧ wq.ownsRow w4.heap.size 29 3 rv ((vs.take i).eraseIdx d).length (vtCells ((vs.take i).eraseIdx d)) ∧ Below w4.heap.size w4 wq := h
theorem ReR.start {vs : List Vt} {n d : Nat} {w4 wq : World} {rv : Value} (h : wq.ownsRow w4.heap.size 29 3 rv 0 []) (hb : Below w4.heap.size w4 wq) : ReR vs n d w4 rv (.int .i64 0) wq := ⟨0, Nat.zero_le _, rfl, by simpa [vtCells] using h, hb⟩
theorem ReR.step {vs : List Vt} {n d i : Nat} {v : Vt} {w4 wq : World} {rv : Value} {F : List Vt} (hi : i < n) (hv : vs[i]? = some v) (hne : i ≠ d) (hF : (vs.take i).eraseIdx d = F) (h : wq.ownsRow w4.heap.size 29 3 rv (F.length + 1) (vtCells F ++ [.string v.id, .int .u64 (v.w : Nat), .int .u64 (v.c : Nat)])) (hb : Below w4.heap.size w4 wq) : ReR vs n d w4 rv (.int .i64 ((i : Int) + 1)) wq := by
  refine ⟨i + 1, hi, by simp, ?_, hb⟩
  rw [rest_step hv hne, hF, vtCells_append, List.length_append]
  exact h
theorem ReR.skip {vs : List Vt} {n i : Nat} {v : Vt} {w4 wq : World} {rv : Value} {F : List Vt} (hi : i < n) (hv : vs[i]? = some v) (hF : (vs.take i).eraseIdx i = F) (h : wq.ownsRow w4.heap.size 29 3 rv F.length (vtCells F)) (hb : Below w4.heap.size w4 wq) : ReR vs n i w4 rv (.int .i64 ((i : Int) + 1)) wq := by
  refine ⟨i + 1, hi, by simp, ?_, hb⟩
  rw [rest_skip hv, hF]
  exact h
attribute [irreducible] ReR

/-- what the first quorum gives the law -/
theorem first_some {vs : List Vt} {thr bud : Nat} {m : List Bool} (h : IsFirst vs thr bud m) (ht : 1 ≤ thr) : 0 < (sel vs m).length := by
  rcases Nat.eq_zero_or_pos (sel vs m).length with h0 | h0
  · have h1 := h.1.2.1
    rw [← sw_sel, List.eq_nil_of_length_eq_zero h0] at h1
    simp [sw] at h1
    omega
  · exact h0
theorem place_at {vs : List Vt} {m : List Bool} {g : Nat} (hl : m.length = vs.length) (hg : g < (sel vs m).length) : ∃ p v, (plc 0 m)[g]? = some p ∧ p < vs.length ∧ vs[p]? = some v ∧ (sel vs m)[g]? = some v := by
  have hlen : (plc 0 m).length = (sel vs m).length := by rw [plc_length, sel_length _ _ hl]
  obtain ⟨p, hp⟩ : ∃ p, (plc 0 m)[g]? = some p := ⟨_, List.getElem?_eq_getElem (by rw [hlen]; exact hg)⟩
  obtain ⟨v, _, h2, h3⟩ := sel_at vs m 0 g p hl hp
  rw [Nat.sub_zero] at h2
  exact ⟨p, v, hp, (List.getElem?_eq_some_iff.1 h2).1, h2, h3⟩
theorem not_place {vs : List Vt} {m : List Bool} {d : Nat} (hl : m.length = vs.length) (hd : d < vs.length) (h : ¬ d ∈ plc 0 m) : m[d]? = some false := by
  obtain ⟨b, hb⟩ : ∃ b, m[d]? = some b := ⟨_, List.getElem?_eq_getElem (by rw [hl]; exact hd)⟩
  cases b with
  | false => exact hb
  | true => exact absurd ((plc_mem 0 m d).2 ⟨d, by omega, hb⟩) h
end Go.Proofs.Qxb6608623a.qm2
