/-
  THE PROOF OF 'Rows.FnFirstMinimalQuorumIsMinimalAndKeptWithoutOthersSaid': the row's step, typed after the guide's template for a law over slices; the walk lies in the texts that are imported.
-/
import Derived.Test.Qxb6608623aRows
import Derived.WalkKit
import Derived.ProofKit
import Derived.OpenShut
import Derived.ChangeOld
import Derived.Below
import Derived.Test.Qxb6608623aQmZ
import Derived.Test.Qxb6608623aQmF
namespace Go.Proofs.Qxb6608623a.fnFirstMinimalQuorumIsMinimalAndKeptWithoutOthers
open Go.ChangeShapes Go.WideShapes Go.ChangeAt Go.RowKit
open Go.Proofs.Qxb6608623a.Qm
open Go.Proofs.Qxb6608623a.qmW
open Go.Proofs.Qxb6608623a.qmV
open Go.Proofs.Qxb6608623a.qmF (open_voters u64_of)
set_option linter.unusedVariables false

theorem own : ownKnob Try.prog.godebug = none := by kernel_rfl
theorem laidOut : laidOutB Try.prog = true := by kernel_rfl

theorem walk (a : Option Addr) (len cap : Nat) (thr bud drop : Int) (S : List Vt) (w : World) (w1 : (Lit.int .u64 thr).wf = true) (w2 : (Lit.int .u64 bud).wf = true) (w3 : (Lit.int .i64 drop).wf = true) (hm : len ≤ maxLen) (hS : S.length = len) (hU : ∀ v ∈ S, U v.w ∧ U v.c) (hV : Vs w a S) :
    Calls Try.prog 3 #[.slice a len cap, .int .u64 thr, .int .u64 bud, .int .i64 drop] w fun e w' => e = .returned (.bool true) ∧ Below w.heap.size w w' := by
  obtain ⟨e1, u1⟩ := u64_of w1
  obtain ⟨e2, u2⟩ := u64_of w2
  have b3 := bounds_i64 w3
  rw [← e1, ← e2]
  exact qmZ.law3 a len cap thr.toNat bud.toNat drop S hS hm hU u1 u2 (by omega) (by omega) w hV

/-! ### THE ROW's STEP -/
set_option maxRecDepth 100000 in
theorem lifted (os : Os) (started : os.Started) (H : Type) (enc : TypeId × Value → H) :
    ReturnsInHanded {} Try.checked os 3 .any (Rows.fnFirstMinimalQuorumIsMinimalAndKeptWithoutOthersSpec.pre6 enc Try.prog Try.f3 Rows.fnFirstMinimalQuorumIsMinimalAndKeptWithoutOthersRow.domain false) (Rows.fnFirstMinimalQuorumIsMinimalAndKeptWithoutOthersSpec.post enc Try.prog Try.f3 false true false false) := by
  refine returnsInHanded_of_change (C := Try.checked) own started (by kernel_rfl) Try.func3
    (ChangeSpec.witness6 (enc := enc) (C := Try.checked) false ⟨#[], #[.slice none 0 0, .int .u64 0, .int .u64 0, .int .i64 0], []⟩ 8 (by kernel_rfl) (by kernel_rfl) (by kernel_rfl) (by kernel_rfl)) ?_
  intro W base args ds gs before hval0 hW hcnd _
  have hval : ∀ (j : Nat) t v, Try.f3.params[j]? = some t → args[j]? = some v → Value.okWide Try.prog W .any base t v := hval0
  have hW' := hW
  obtain ⟨p, q, hA0, hV, rfl, hfz, hnd⟩ := hW
  have hA : DataW.TrodAll enc Try.prog W 0 (fun _ => true) true Try.f3.params.toList args.toList ds p := hA0
  rw [Try.params3] at hA hval
  obtain ⟨v0, vs0, d0, ds0, p0, q0, hargs, rfl, rfl, h0, r0⟩ := trodAll_cons hA
  obtain ⟨v1, vs1, d1, ds1, p1, q1, rfl, rfl, rfl, h1, r1⟩ := trodAll_cons r0
  obtain ⟨v2, vs2, d2, ds2, p2, q2, rfl, rfl, rfl, h2, r2⟩ := trodAll_cons r1
  obtain ⟨v3, vs3, d3, ds3, p3, q3, rfl, rfl, rfl, h3, r3⟩ := trodAll_cons r2
  obtain ⟨rfl, rfl, rfl⟩ := trodAll_nil r3
  obtain rfl : args = #[v0, v1, v2, v3] := by cases args; simp_all
  obtain ⟨rfl, rfl⟩ := trodVars_none hV
  obtain ⟨a, len, cap, rfl⟩ := okWide_slice Try.underlying22 (hval 0 22 v0 rfl rfl)
  obtain ⟨thr, rfl, rfl, rfl, w1⟩ := open_int Try.underlying23 (hval 1 23 v1 rfl rfl) h1
  obtain ⟨bud, rfl, rfl, rfl, w2⟩ := open_int Try.underlying23 (hval 2 23 v2 rfl rfl) h2
  obtain ⟨drop, rfl, rfl, rfl, w3⟩ := open_int Try.underlying3 (hval 3 3 v3 rfl rfl) h3
  have k0 := h0
  have lt0 : ∀ x ∈ p0, x.block < W.heap.size := by obtain ⟨m, hm⟩ := k0; exact DataW.trod_lt m _ _ _ hm
  obtain ⟨hm, S, hS, hst, hU⟩ : len ≤ maxLen ∧ ∃ S : List Vt, S.length = len ∧ Vs W a S ∧ ∀ v ∈ S, U v.w ∧ U v.c := by
    obtain ⟨fuel, hf⟩ := h0
    exact open_voters (by simpa [Value.cells] using hf)
  clear hA0 hval0
  refine (walk a len cap thr bud drop S W w1 w2 w3 hm hS hU hst).mono fun e W' ⟨he, bel⟩ => ?_
  subst he
  exact ⟨_, rfl, _, _, _, [], _, [], hW', trodAll_mk1 (shut_bool Try.underlying4 _), (trodAll_cons_mk (Below.trod laidOut (by kernel_rfl) (of_decide_eq_true (by kernel_rfl)) k0 bel lt0) (trodAll_cons_mk (shut_int Try.underlying23 w1) (trodAll_cons_mk (shut_int Try.underlying23 w2) (trodAll_cons_mk (shut_int Try.underlying3 w3) trodAll_mk0)))), rfl, bel.frame _, fun h => by cases h⟩

theorem over : Rows.fnFirstMinimalQuorumIsMinimalAndKeptWithoutOthersRow.holds Try.pinned (OpenSpec.ofChange Rows.fnFirstMinimalQuorumIsMinimalAndKeptWithoutOthersSpec) :=
  OpenClaim.holds_of_wide 3 Try.f3 rfl rfl rfl rfl rfl rfl rfl ⟨rfl, rfl, rfl, rfl, rfl⟩ rfl rfl rfl rfl rfl (by kernel_rfl) Try.func3 (by kernel_rfl)
    (of_decide_eq_true (by kernel_rfl)) (by unfold Func.isWrapper; first | (rw [if_pos (by decide +kernel)]; kernel_rfl) | (rw [if_neg (by decide +kernel)]; exact ⟨rfl, rfl⟩))
    (fun os started H enc _ => lifted os started H enc)

/-- ████ THE STATEMENT ████ -/
theorem proved : Rows.FnFirstMinimalQuorumIsMinimalAndKeptWithoutOthersSaid := over
end Go.Proofs.Qxb6608623a.fnFirstMinimalQuorumIsMinimalAndKeptWithoutOthers
