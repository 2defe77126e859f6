/- THE READERS of the shim, by their contracts. -/
import Derived.Test.Qxb6608516aAdR
namespace Go.Proofs.Qxb6608516a.adS
open Go.RowKit
open Go.Proofs.Qxb6608516a.Ad
open Go.Proofs.Qxb6608516a.adC
open Go.Proofs.Qxb6608516a.adH
open Go.Proofs.Qxb6608516a.adR
open Go.Proofs.Qxb6608516a.adL (wpList_len_run step_len_run)
open Go.Proofs.Qxb6608516a.adM (SetIs vH vT Ok keyT keyH vH_inj vT_inj law63 law60)
set_option linter.unusedVariables false
attribute [local go_sem ↓] Go.wp_at_zero Go.wp_at_succ

section
variable {w : World} {B : Nat} {F : Nat → Prop} {R n : Nat} {S : List Stp}

theorem look2 {α : Type} [DecidableEq α] {k : TypeId} {val : α → Value} {b m : Nat} {L : List α} (h : SetIs k val w b m L) (K : Maps.Keyed Try.prog k) {t : TypeId} (ht : Try.prog.underlying t = some (.map k 64)) (x : α) (hx : ∃ l, keyOf Try.prog k (val x) = some l) :
    ∃ q, (Instr.lookup t (.map (some b)) (val x) true).run Try.prog w = .ok (.tuple #[.agg #[], .bool q]) w ∧ (q = true ↔ x ∈ L) :=
  ⟨_, h.look K ht x hx, decide_eq_true_iff⟩

/-- the numbers of a slice that came out of the rules -/
def RdI (w : World) (F : Nat → Prop) (ao : Option Addr) (L : List Int) : Prop :=
  L = [] ∨ ∃ g, ao = some ⟨g, 0, none⟩ ∧ F g ∧ ∀ i, i < L.length → w.cell? ⟨g, i, none⟩ = some (.int .i64 (L.getD i 0))

theorem cells_take {e : TypeId} {size m g cap : Nat} {cs : List Value} (h : w.ownsRow B e size (.slice (some ⟨g, 0, none⟩) m cap) m cs) (j : Nat) (hj : j < m * size) : w.cell? ⟨g, j, none⟩ = cs[j]? := by
  obtain ⟨_, ⟨h1, _⟩ | ⟨g', cp, cur, h1, _, hh, hle, _, hsz, ht⟩⟩ := h
  · simp at h1
  · simp only [Value.slice.injEq, Option.some.injEq, Addr.mk.injEq] at h1
    obtain ⟨⟨rfl, _⟩, _, rfl⟩ := h1
    have e : w.cell? ⟨g, j, none⟩ = cur[j]? := by simp [World.cell?, hh]
    rw [e, ← ht, List.getElem?_take, if_pos hj]
    simp
theorem cells2_get : ∀ (L : List (Int × Int)) (i : Nat) (p : Int × Int), L[i]? = some p → (cells2 L)[i * 2]? = some (.int .i64 p.1) ∧ (cells2 L)[i * 2 + 1]? = some (.int .i64 p.2)
  | [], i, p, h => by simp at h
  | q :: L, 0, p, h => by
    simp at h; subst h; simp [cells2]
  | q :: L, i + 1, p, h => by
    have := cells2_get L i p (by simpa using h)
    rw [show (i + 1) * 2 = i * 2 + 1 + 1 by omega]
    simpa [cells2] using this
theorem cells3_get : ∀ (L : List Stp) (i : Nat) (p : Stp), L[i]? = some p → (cells3 L)[i * 3]? = some (.int .i64 p.1) ∧ (cells3 L)[i * 3 + 1]? = some (.int .i64 p.2.1) ∧ (cells3 L)[i * 3 + 2]? = some (.int .i64 p.2.2)
  | [], i, p, h => by simp at h
  | q :: L, 0, p, h => by
    simp at h; subst h; simp [cells3]
  | q :: L, i + 1, p, h => by
    have := cells3_get L i p (by simpa using h)
    rw [show (i + 1) * 3 = i * 3 + 1 + 1 + 1 by omega]
    simpa [cells3] using this

theorem holders15 (h : St w B F R n S) :
    Calls Try.prog 15 #[.pointer (some ⟨R, 0, none⟩)] w fun e w' => ∃ ao cap, e = .returned (.slice ao (holdersOf S).length cap) ∧ RdI w F ao (holdersOf S) ∧ w = w' := by
  obtain ⟨Hb, mh, mt, ⟨ho, rp, hs, hF⟩, hB⟩ := h
  obtain ⟨ao, cap, rfl⟩ := own_form hF.core.oo.own
  have hrd : RdI w F ao (holdersOf S) := by
    rcases hF.core.oo.own.2 with ⟨e, h0⟩ | ⟨g, cp, cur, e, _⟩
    · exact .inl (List.eq_nil_of_length_eq_zero h0)
    · simp only [Value.slice.injEq] at e
      obtain ⟨rfl, _, rfl⟩ := e
      refine .inr ⟨g, rfl, ?_, fun i hi => ?_⟩
      · obtain ⟨cur, hk⟩ := own_block hF.core.oo.own (k := g) rfl
        rcases (hF.core.oo.mine g rfl).1 with h1 | h1
        · exact h1
        · have := lt_of_some hk; omega
      · rw [cells_take hF.core.oo.own i (by omega)]
        simp [cells1, List.getElem?_eq_getElem hi, List.getD]
  obtain ⟨_, c6, _⟩ := at_R hF.core.hR
  clear hF hB
  go_enter Try.func15, Try.ntmps15
  go_wp2
  go_ret
  exact ⟨ao, cap, rfl, hrd, rfl⟩

theorem heldLen16 (h : St w B F R n S) (c : Nat) (hc : c < n) (hn : n ≤ 65536) :
    Calls Try.prog 16 #[.pointer (some ⟨R, 0, none⟩), .int .i64 c] w fun e w' => e = .returned (.int .i64 ((heldOf S c).length : Nat)) ∧ w = w' := by
  obtain ⟨Hb, mh, mt, ⟨ho, rp, hs, hF⟩, hB⟩ := h
  obtain ⟨v, hv⟩ : ∃ v, hs[c]? = some v := ⟨_, List.getElem?_eq_getElem (by have := hF.core.len; omega)⟩
  obtain ⟨av, cv, rfl⟩ := own_form (hF.core.oh c v hv).own
  obtain ⟨c5, _⟩ := at_R hF.core.hR
  obtain ⟨cc, _⟩ := at_H hF.core.hH hv
  clear hF hB hv
  go_enter Try.func16, Try.ntmps16
  go_wp2
  go_ret
  exact ⟨rfl, rfl⟩

theorem repLen18 (h : St w B F R n S) :
    Calls Try.prog 18 #[.pointer (some ⟨R, 0, none⟩)] w fun e w' => e = .returned (.int .i64 ((repsOf S).length : Nat)) ∧ w = w' := by
  obtain ⟨Hb, mh, mt, ⟨ho, rp, hs, hF⟩, hB⟩ := h
  obtain ⟨ap, cp, rfl⟩ := own_form hF.core.orp.own
  obtain ⟨_, _, _, _, _, c11, _⟩ := at_R hF.core.hR
  clear hF hB
  go_enter Try.func18, Try.ntmps18
  go_wp2
  go_ret
  exact ⟨rfl, rfl⟩

theorem wild24 (h : St w B F R n S) :
    Calls Try.prog 24 #[.pointer (some ⟨R, 0, none⟩)] w fun e w' => e = .returned (.bool (wildOf S)) ∧ w = w' := by
  obtain ⟨Hb, mh, mt, ⟨ho, rp, hs, hF⟩, hB⟩ := h
  obtain ⟨_, _, _, _, c9, _, _⟩ := at_R hF.core.hR
  clear hF hB
  go_enter Try.func24, Try.ntmps24
  go_wp2
  go_ret
  exact ⟨rfl, rfl⟩

theorem holdsLen22 (h : St w B F R n S) :
    Calls Try.prog 22 #[.pointer (some ⟨R, 0, none⟩)] w fun e w' => e = .returned (.int .i64 ((Ad.distinct S).length : Nat)) ∧ w = w' := by
  obtain ⟨Hb, mh, mt, ⟨ho, rp, hs, hF⟩, hB⟩ := h
  obtain ⟨_, _, c7, _⟩ := at_R hF.core.hR
  have HL : Hid ((Builtin.len_ #[49] 3 #[.map (some mh)]).run Try.prog w = .ok (.int .i64 ((Ad.distinct S).length : Nat)) w) := hF.sh.len Try.underlying49 3
  clear hF hB
  go_enter Try.func22, Try.ntmps22
  go_wp2_with (at_len; refine wpList_len_run _ rfl _ 49 rfl (.map (some mh)) (.int .i64 ((Ad.distinct S).length : Nat)) rfl HL.out ?_)
  go_ret
  exact ⟨rfl, rfl⟩

theorem targetsLen23 (h : St w B F R n S) :
    Calls Try.prog 23 #[.pointer (some ⟨R, 0, none⟩)] w fun e w' => e = .returned (.int .i64 ((Ad.distinct (targetsOf S)).length : Nat)) ∧ w = w' := by
  obtain ⟨Hb, mh, mt, ⟨ho, rp, hs, hF⟩, hB⟩ := h
  obtain ⟨_, _, _, c8, _⟩ := at_R hF.core.hR
  have HL : Hid ((Builtin.len_ #[50] 3 #[.map (some mt)]).run Try.prog w = .ok (.int .i64 ((Ad.distinct (targetsOf S)).length : Nat)) w) := hF.st.len Try.underlying50 3
  clear hF hB
  go_enter Try.func23, Try.ntmps23
  go_wp2_with (at_len; refine wpList_len_run _ rfl _ 50 rfl (.map (some mt)) (.int .i64 ((Ad.distinct (targetsOf S)).length : Nat)) rfl HL.out ?_)
  go_ret
  exact ⟨rfl, rfl⟩

set_option maxRecDepth 100000 in
theorem heldAt17 (h : St w B F R n S) (c i : Nat) (p : Int × Int) (hc : c < n) (hn : n ≤ 65536) (hi : (heldOf S c)[i]? = some p) (hl : S.length ≤ 8192) :
    Calls Try.prog 17 #[.pointer (some ⟨R, 0, none⟩), .int .i64 c, .int .i64 i] w fun e w' => e = .returned (.tuple #[.int .i64 p.1, .int .i64 p.2]) ∧ Below w.heap.size w w' := by
  obtain ⟨Hb, mh, mt, ⟨ho, rp, hs, hF⟩, hB⟩ := h
  obtain ⟨v, hv⟩ : ∃ v, hs[c]? = some v := ⟨_, List.getElem?_eq_getElem (by have := hF.core.len; omega)⟩
  have hil : i < (heldOf S c).length := (List.getElem?_eq_some_iff.1 hi).1
  have hll := held_le S c
  obtain ⟨g, cv, rfl, _, lg⟩ := (hF.core.oh c v hv).own.form (by omega)
  have ho := (hF.core.oh c _ hv).own
  obtain ⟨e0, e1⟩ := cells2_get (heldOf S c) i p hi
  have g0 : w.cell? ⟨g, i * 2, none⟩ = some (.int .i64 p.1) := by rw [cells_take ho _ (by omega)]; exact e0
  have g1 : w.cell? ⟨g, i * 2 + 1, none⟩ = some (.int .i64 p.2) := by rw [cells_take ho _ (by omega)]; exact e1
  obtain ⟨c5, _⟩ := at_R hF.core.hR
  obtain ⟨cc, _⟩ := at_H hF.core.hH hv
  generalize (heldOf S c).length = m at *
  clear hF hB hv hi e0 e1 ho
  go_enter Try.func17, Try.ntmps17
  go_wp2
  go_region
  all_goals
    go_wp2
    go_ret2
    exact ⟨rfl, ((Below.refl _ _).alloc (Nat.le_refl _) _).drew⟩

set_option maxRecDepth 100000 in
theorem repAt19 (h : St w B F R n S) (i : Nat) (p : Stp) (hi : (repsOf S)[i]? = some p) (hl : S.length ≤ 8192) :
    Calls Try.prog 19 #[.pointer (some ⟨R, 0, none⟩), .int .i64 i] w fun e w' => e = .returned (.tuple #[.int .i64 p.1, .int .i64 p.2.1, .int .i64 p.2.2]) ∧ Below w.heap.size w w' := by
  obtain ⟨Hb, mh, mt, ⟨ho, rp, hs, hF⟩, hB⟩ := h
  have hil : i < (repsOf S).length := (List.getElem?_eq_some_iff.1 hi).1
  have hll := reps_le S
  obtain ⟨g, cv, rfl, _, lg⟩ := hF.core.orp.own.form (by omega)
  have ho := hF.core.orp.own
  obtain ⟨e0, e1, e2⟩ := cells3_get (repsOf S) i p hi
  have g0 : w.cell? ⟨g, i * 3, none⟩ = some (.int .i64 p.1) := by rw [cells_take ho _ (by omega)]; exact e0
  have g1 : w.cell? ⟨g, i * 3 + 1, none⟩ = some (.int .i64 p.2.1) := by rw [cells_take ho _ (by omega)]; exact e1
  have g2 : w.cell? ⟨g, i * 3 + 2, none⟩ = some (.int .i64 p.2.2) := by rw [cells_take ho _ (by omega)]; exact e2
  obtain ⟨_, _, _, _, _, c11, _⟩ := at_R hF.core.hR
  generalize (repsOf S).length = m at *
  clear hF hB hi e0 e1 e2 ho
  go_enter Try.func19, Try.ntmps19
  go_wp2
  go_region
  all_goals
    go_wp2
    go_ret3
    exact ⟨rfl, ((Below.refl _ _).alloc (Nat.le_refl _) _).drew⟩

set_option maxRecDepth 100000 in
theorem holds20 (h : St w B F R n S) (c a r : Int) (hc : Ok c) (ha : Ok a) (hr : Ok r) :
    Calls Try.prog 20 #[.pointer (some ⟨R, 0, none⟩), .int .i64 c, .int .i64 a, .int .i64 r] w fun e w' => ∃ q, e = .returned (.bool q) ∧ (q = true ↔ (c, a, r) ∈ S) ∧ Below w.heap.size w w' := by
  obtain ⟨Hb, mh, mt, ⟨ho, rp, hs, hF⟩, hB⟩ := h
  obtain ⟨_, _, c7, _⟩ := at_R hF.core.hR
  obtain ⟨q, hlook0, hq⟩ := look2 hF.sh law63 Try.underlying49 (c, a, r) (keyH hc ha hr)
  have hlook : (Instr.lookup 49 (.map (some mh)) (.agg #[.int .i64 c, .int .i64 a, .int .i64 r]) true).run Try.prog w = .ok (.tuple #[.agg #[], .bool q]) w := hlook0
  have HQ : Hid (q = true ↔ (c, a, r) ∈ S) := hq
  clear hlook0 hq
  clear hF hB
  go_enter Try.func20, Try.ntmps20
  go_wp2
  go_ret
  exact ⟨q, rfl, HQ.out, (Below.refl _ _).alloc (Nat.le_refl _) _⟩

set_option maxRecDepth 100000 in
theorem hasTarget21 (h : St w B F R n S) (a r : Int) (ha : Ok a) (hr : Ok r) :
    Calls Try.prog 21 #[.pointer (some ⟨R, 0, none⟩), .int .i64 a, .int .i64 r] w fun e w' => ∃ q, e = .returned (.bool q) ∧ (q = true ↔ (a, r) ∈ targetsOf S) ∧ Below w.heap.size w w' := by
  obtain ⟨Hb, mh, mt, ⟨ho, rp, hs, hF⟩, hB⟩ := h
  obtain ⟨_, _, _, c8, _⟩ := at_R hF.core.hR
  obtain ⟨q, hlook0, hq⟩ := look2 hF.st law60 Try.underlying50 (a, r) (keyT ha hr)
  have hlook : (Instr.lookup 50 (.map (some mt)) (.agg #[.int .i64 a, .int .i64 r]) true).run Try.prog w = .ok (.tuple #[.agg #[], .bool q]) w := hlook0
  have HQ : Hid (q = true ↔ (a, r) ∈ targetsOf S) := hq
  clear hlook0 hq
  clear hF hB
  go_enter Try.func21, Try.ntmps21
  go_wp2
  go_ret
  exact ⟨q, rfl, HQ.out, (Below.refl _ _).alloc (Nat.le_refl _) _⟩
end
end Go.Proofs.Qxb6608516a.adS
