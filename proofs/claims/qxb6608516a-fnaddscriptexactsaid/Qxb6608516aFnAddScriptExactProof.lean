/-
  THE PROOF OF 'Rows.FnAddScriptExactSaid': the row's step, typed after the guide's template for a law over slices; the walk lies in the texts that are imported.
-/
import Derived.Test.Qxb6608516aRows
import Derived.WalkKit
import Derived.ProofKit
import Derived.OpenShut
import Derived.ChangeOld
import Derived.Below
import Derived.Test.Qxb6608516aAdX
import Derived.Test.Qxb6608516aAdO
import Derived.Test.Qxb6608516aAdF
namespace Go.Proofs.Qxb6608516a.fnAddScriptExact
open Go.ChangeShapes Go.WideShapes Go.ChangeAt Go.RowKit
open Go.Proofs.Qxb6608516a.Ad
open Go.Proofs.Qxb6608516a.adO (open_steps)
set_option linter.unusedVariables false

theorem own : ownKnob Try.prog.godebug = none := by kernel_rfl
theorem laidOut : laidOutB Try.prog = true := by kernel_rfl

theorem walk (n : Int) (a : Option Addr) (len cap : Nat) (S : List Stp) (w : World) (w0 : (Lit.int .i64 n).wf = true) (hm : len ≤ maxLen) (hS : S.length = len) (hst : adO.Steps w a S) :
    Calls Try.prog 5 #[.int .i64 n, .slice a len cap] w fun e w' => e = .returned (.bool true) ∧ Below w.heap.size w w' := by
  by_cases hout : 4096 < len ∨ n < 0 ∨ 65536 < n
  · refine (adF.exactOut n a len cap hm w hout).mono ?_
    rintro e w' ⟨he, rfl⟩
    exact ⟨he, Below.refl _ _⟩
  obtain ⟨n, rfl⟩ := Int.eq_ofNat_of_zero_le (show 0 ≤ n by omega)
  by_cases h0 : len = 0
  · subst h0
    exact adF.exactNone n (by omega) a cap w
  · obtain ⟨s, hs⟩ : ∃ s, S[0]? = some s := ⟨_, List.getElem?_eq_getElem (by omega)⟩
    obtain ⟨b, o, rfl, hb, _⟩ := hst 0 s hs
    refine adX.exact5 n (by omega) b o len cap S hS (by omega) (by omega) w hb (fun k s hk => ?_)
    obtain ⟨b', o', e, _, c0, c1, c2, r⟩ := hst k s hk
    simp only [Option.some.injEq, Addr.mk.injEq] at e
    obtain ⟨rfl, rfl, _⟩ := e
    exact ⟨⟨c0, c1, c2⟩, r⟩

/-! ### THE ROW's STEP -/
set_option maxRecDepth 100000 in
theorem lifted (os : Os) (started : os.Started) (H : Type) (enc : TypeId × Value → H) :
    ReturnsInHanded {} Try.checked os 5 .any (Rows.fnAddScriptExactSpec.pre6 enc Try.prog Try.f5 Rows.fnAddScriptExactRow.domain false) (Rows.fnAddScriptExactSpec.post enc Try.prog Try.f5 false true false false) := by
  refine returnsInHanded_of_change (C := Try.checked) own started (by kernel_rfl) Try.func5
    (ChangeSpec.witness6 (enc := enc) (C := Try.checked) false ⟨#[], #[.int .i64 0, .slice none 0 0], []⟩ 8 (by kernel_rfl) (by kernel_rfl) (by kernel_rfl) (by kernel_rfl)) ?_
  intro W base args ds gs before hval0 hW hcnd _
  have hval : ∀ (j : Nat) t v, Try.f5.params[j]? = some t → args[j]? = some v → Value.okWide Try.prog W .any base t v := hval0
  have hW' := hW
  obtain ⟨p, q, hA0, hV, rfl, hfz, hnd⟩ := hW
  have hA : DataW.TrodAll enc Try.prog W 0 (fun _ => true) true Try.f5.params.toList args.toList ds p := hA0
  rw [Try.params5] at hA hval
  obtain ⟨v0, vs0, d0, ds0, p0, q0, hargs, rfl, rfl, h0, r0⟩ := trodAll_cons hA
  obtain ⟨v1, vs1, d1, ds1, p1, q1, rfl, rfl, rfl, h1, r1⟩ := trodAll_cons r0
  obtain ⟨rfl, rfl, rfl⟩ := trodAll_nil r1
  obtain rfl : args = #[v0, v1] := by cases args; simp_all
  obtain ⟨rfl, rfl⟩ := trodVars_none hV
  obtain ⟨n, rfl, rfl, rfl, w0⟩ := open_int Try.underlying3 (hval 0 3 v0 rfl rfl) h0
  obtain ⟨a, len, cap, rfl⟩ := okWide_slice Try.underlying30 (hval 1 30 v1 rfl rfl)
  have k1 := h1
  have lt1 : ∀ x ∈ p1, x.block < W.heap.size := by obtain ⟨m, hm⟩ := k1; exact DataW.trod_lt m _ _ _ hm
  obtain ⟨hm, S, hS, hst⟩ : len ≤ maxLen ∧ ∃ S : List Stp, S.length = len ∧ adO.Steps W a S := by
    obtain ⟨fuel, hf⟩ := h1
    exact open_steps (by simpa [Value.cells] using hf)
  clear hA0 hval0
  refine (walk n a len cap S W w0 hm hS hst).mono fun e W' ⟨he, bel⟩ => ?_
  subst he
  exact ⟨_, rfl, _, _, _, [], _, [], hW', trodAll_mk1 (shut_bool Try.underlying4 _), (trodAll_cons_mk (shut_int Try.underlying3 w0) (trodAll_cons_mk (Below.trod laidOut (by kernel_rfl) (of_decide_eq_true (by kernel_rfl)) k1 bel lt1) trodAll_mk0)), rfl, bel.frame _, fun h => by cases h⟩

theorem over : Rows.fnAddScriptExactRow.holds Try.pinned (OpenSpec.ofChange Rows.fnAddScriptExactSpec) :=
  OpenClaim.holds_of_wide 5 Try.f5 rfl rfl rfl rfl rfl rfl rfl ⟨rfl, rfl, rfl, rfl, rfl⟩ rfl rfl rfl rfl rfl (by kernel_rfl) Try.func5 (by kernel_rfl)
    (of_decide_eq_true (by kernel_rfl)) (by unfold Func.isWrapper; first | (rw [if_pos (by decide +kernel)]; kernel_rfl) | (rw [if_neg (by decide +kernel)]; exact ⟨rfl, rfl⟩))
    (fun os started H enc _ => lifted os started H enc)

/-- ████ THE STATEMENT ████ -/
theorem proved : Rows.FnAddScriptExactSaid := over
end Go.Proofs.Qxb6608516a.fnAddScriptExact
