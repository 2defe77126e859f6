/- THE ARGUMENT 'voters []VoterIn': what its reading says of its cells. -/
import Derived.Test.Qxb6608623aQmV
import Derived.Deep.Slices
import Derived.ChangeSame
import Derived.ProofKit
import Derived.OpenShut
namespace Go.Proofs.Qxb6608623a.qmF
open Go.RowKit Go.Deep Go.ChangeShapes Go.WideShapes Go.ChangeAt
open Go.Proofs.Qxb6608623a.Qm
open Go.Proofs.Qxb6608623a.qmW
open Go.Proofs.Qxb6608623a.qmI
open Go.Proofs.Qxb6608623a.qmV
set_option linter.unusedVariables false

theorem cells29 : Try.prog.cellsOf 29 = 3 := by kernel_rfl
theorem cells9' : Try.prog.cellsOf 9 = 1 := by kernel_rfl
theorem cells23' : Try.prog.cellsOf 23 = 1 := by kernel_rfl

instance : Inhabited Vt := ⟨⟨⟨#[]⟩, 0, 0⟩⟩

theorem u64_of {x : Int} (h : (Lit.int .u64 x).wf = true) : ((x.toNat : Nat) : Int) = x ∧ U x.toNat := by
  have h2 := bounds_u64 h
  unfold U
  omega

set_option maxRecDepth 100000 in
theorem open_voters {H : Type} {enc : TypeId × Value → H} {w : World} {base : Nat} {spare : Nat → Bool} {held : Bool} {fuel : Nat} {a : Option Addr} {len cap : Nat} {x : DataW H × List MemPlace}
    (h : DataW.trod enc Try.prog w base spare held fuel 22 [.slice a len cap] = some x) : len ≤ maxLen ∧ ∃ S : List Vt, S.length = len ∧ Vs w a S ∧ ∀ v ∈ S, U v.w ∧ U v.c := by
  rcases open_slice Try.underlying22 h with ⟨e, _⟩ | ⟨ad, len', cap', m, n, D, Pl, e, hb, hl, hm, hmm, rfl, hx⟩
  · simp at e
    obtain ⟨rfl, rfl, rfl⟩ := e
    exact ⟨Nat.zero_le _, [], rfl, fun i s hs => by simp at hs, fun v hv => by simp at hv⟩
  · simp at e
    obtain ⟨rfl, rfl, rfl⟩ := e
    have hlm : len ≤ m := by rw [hmm]; split <;> omega
    have each : ∀ i, i < len → ∃ s : Vt, w.cell? (ad.add (i * 3)) = some (.string s.id) ∧ w.cell? (ad.add (i * 3 + 1)) = some (.int .u64 (s.w : Nat)) ∧ w.cell? (ad.add (i * 3 + 2)) = some (.int .u64 (s.c : Nat)) ∧ U s.w ∧ U s.c := by
      intro i hi
      obtain ⟨cs', h1, h2⟩ := hx i (by omega)
      rw [cells29] at h1
      obtain ⟨_, hlen, hcell⟩ := World.cells?_some h1
      obtain ⟨xs, k, hk, hxy, _, hxl, hf⟩ := DataW.trod_struct Try.underlying29 h2
      match cs', hlen with
      | [v0, v1, v2], _ =>
        have e0 := hcell 0 (by omega)
        have e1 := hcell 1 (by omega)
        have e2 := hcell 2 (by omega)
        rw [Go.Deep.add_add] at e0 e1 e2
        have g0 := hf 0 _ rfl
        have g1 := hf 1 _ rfl
        have g2 := hf 2 _ rfl
        simp [cells9', cells23'] at g0 g1 g2
        match xs, hxl with
        | [y0, y1, y2], _ =>
          obtain ⟨x0, hx0, _, w0⟩ := DataW.trod_string Try.underlying9 g0
          obtain ⟨x1, hx1, _, w1⟩ := DataW.trod_int Try.underlying23 g1
          obtain ⟨x2, hx2, _, w2⟩ := DataW.trod_int Try.underlying23 g2
          simp at hx0 hx1 hx2
          subst hx0 hx1 hx2
          obtain ⟨p1, p2⟩ := u64_of w1
          obtain ⟨q1, q2⟩ := u64_of w2
          exact ⟨⟨x0, x1.toNat, x2.toNat⟩, by simpa using e0, by rw [p1]; simpa using e1, by rw [q1]; simpa using e2, p2, q2⟩
    obtain ⟨f, hf⟩ := choose_lt each
    refine ⟨by omega, (List.range len).map f, by simp, fun i s hs => ?_, fun v hv => ?_⟩
    rotate_left
    · obtain ⟨i, hi, rfl⟩ := List.mem_map.1 hv
      exact (hf i (by simpa using hi)).2.2.2
    obtain ⟨hi, e⟩ := List.getElem?_eq_some_iff.1 hs
    have hi' : i < len := by simpa using hi
    simp at e
    subst e
    obtain ⟨c0, c1, c2, r⟩ := hf i hi'
    obtain ⟨b, o, spot⟩ := ad
    have hsp : ∀ j, (⟨b, o, spot⟩ : Addr).add (j + 1) = ⟨b, o + (j + 1), none⟩ := fun j => by simp [Addr.add]
    have hspot : spot = none := by
      by_cases h0 : i * 3 = 0
      · rw [h0] at c0
        simpa [Addr.add] using World.cell?_spot c0
      · obtain ⟨cs0, q1, q2⟩ := hx 0 (by omega)
        rw [cells29] at q1
        obtain ⟨_, hl0, hc0⟩ := World.cells?_some q1
        have z := hc0 0 (by omega)
        rw [Go.Deep.add_add] at z
        have z' : w.cell? (⟨b, o, spot⟩ : Addr) = cs0[0]? := by simpa [Addr.add] using z
        have : ∃ v, cs0[0]? = some v := ⟨_, List.getElem?_eq_getElem (by omega)⟩
        obtain ⟨v, hv⟩ := this
        rw [hv] at z'
        simpa using World.cell?_spot z'
    subst hspot
    rw [add_plain] at c0 c1 c2
    exact ⟨b, o, rfl, World.block_lt_of_cell? w _ c0, c0, by rw [Nat.add_assoc]; exact c1, by rw [Nat.add_assoc]; exact c2⟩
end Go.Proofs.Qxb6608623a.qmF
