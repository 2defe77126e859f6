/- THE EMPTY SCRIPT, and the inputs of which the laws say nothing: FnAddScriptExact. -/
import Derived.Test.Qxb6608516aAdZ
import Derived.Test.Qxb6608516aAdQ
namespace Go.Proofs.Qxb6608516a.adF
open Go.RowKit
open Go.Proofs.Qxb6608516a.Ad
open Go.Proofs.Qxb6608516a.adR
open Go.Proofs.Qxb6608516a.adZ
open Go.Proofs.Qxb6608516a.adS
set_option linter.unusedVariables false

theorem zz12 (n : Int) (a : Option Addr) (len cap : Nat) (h : len ≤ 4096) (w : World) :
    Calls Try.prog 12 #[.int .i64 n, .slice a len cap] w fun e w' => e = .returned (.bool true) ∧ w = w' := by
  go_enter Try.func12, Try.ntmps12
  go_wp2
  go_ret
  exact ⟨rfl, rfl⟩
theorem zz12r (n : Int) (a : Option Addr) (len cap : Nat) (h : len ≤ maxLen) (w : World) :
    Calls Try.prog 12 #[.int .i64 n, .slice a len cap] w fun e w' => ∃ q, e = .returned (.bool q) ∧ w = w' := by
  unfold maxLen at h
  go_enter Try.func12, Try.ntmps12
  go_wp2
  all_goals
    go_ret
    exact ⟨_, rfl, rfl⟩

set_option maxRecDepth 100000 in
/-- the law says nothing of a long script or of too many categories -/
theorem exactOut (n : Int) (a : Option Addr) (len cap : Nat) (hl : len ≤ maxLen) (w : World) (h : 4096 < len ∨ n < 0 ∨ 65536 < n) :
    Calls Try.prog 5 #[.int .i64 n, .slice a len cap] w fun e w' => e = .returned (.bool true) ∧ w = w' := by
  have hl' := hl
  unfold maxLen at hl
  by_cases h1 : 4096 < (len : Int)
  · go_enter Try.func5, Try.ntmps5
    go_wp2_with fail
    refine (zz12r _ _ _ _ hl' _).mono ?_
    rintro e w' ⟨q, rfl, rfl⟩
    cases q
    all_goals
      go_wp2
      go_ret
      exact ⟨rfl, rfl⟩
  · go_enter Try.func5, Try.ntmps5
    go_wp2_with fail
    refine (zz12 _ _ _ _ (by omega) _).mono ?_
    rintro e w' ⟨rfl, rfl⟩
    by_cases h2 : n < 0
    · go_wp2
      go_ret
      exact ⟨rfl, rfl⟩
    · have h3 : 65536 < n := by omega
      go_wp2
      go_ret
      exact ⟨rfl, rfl⟩

set_option maxRecDepth 100000 in
set_option maxHeartbeats 4000000 in
theorem exactNone (n : Nat) (hn : n ≤ 65536) (a : Option Addr) (cap : Nat) (w : World) :
    Calls Try.prog 5 #[.int .i64 n, .slice a 0 cap] w fun e w' => e = .returned (.bool true) ∧ Below w.heap.size w w' := by
  have d2 : decide ((n : Int) < 0) = false := decide_eq_false (by omega)
  have d3 : decide (65536 < (n : Int)) = false := decide_eq_false (by omega)
  go_enter Try.func5, Try.ntmps5
  go_wp2_with (go_at_call 12; refine (zz12 _ _ _ _ (by omega) _).mono ?_; rintro e w' ⟨rfl, rfl⟩)
  go_loop [5] (fun i => i = .int .i64 0) (fun i => 0)
  case atStart => rfl
  case round =>
    subst hrel
    go_wp2_with fail
    refine (new13 n hn _).mono ?_
    rintro e w1 ⟨R1, rfl, hS1, hb1⟩
    have HB : Hid (Below w.heap.size w w1) := hb1
    obtain ⟨F1, HF1⟩ : ∃ F1, Hid (St w1 w.heap.size F1 R1 n []) := ⟨_, hS1⟩
    clear hS1 hb1
    go_wp2_with fail
    go_loop [7] (fun i => i = .int .i64 0) (fun i => 0)
    case atStart => rfl
    case round =>
      subst hrel
      go_wp2_with fail
      refine (holders15 HF1.out).mono ?_
      rintro e w' ⟨ao1, cp1, rfl, hr1, rfl⟩
      rw [show (holdersOf []).length = 0 from rfl]
      clear hr1
      go_wp2_with fail
      go_loop [9, 10, 11, 12, 13, 14] (fun a b c d e i => a = .int .i64 0 ∧ b = .int .i64 0 ∧ c = .int .i64 0 ∧ d = .int .i64 0 ∧ e = .bool false ∧ i = .int .i64 0) (fun _ _ _ _ _ _ => 0)
      case atStart => exact ⟨rfl, rfl, rfl, rfl, rfl, rfl⟩
      case round =>
        obtain ⟨rfl, rfl, rfl, rfl, rfl, rfl⟩ := hrel
        go_wp2_with fail
        go_loop [28, 29] (fun t i => t = .int .i64 0 ∧ ∃ c : Nat, c ≤ n ∧ i = .int .i64 c) (fun _ i => n - (intOf i).toNat)
        case atStart => exact ⟨rfl, 0, Nat.zero_le _, rfl⟩
        case round =>
          obtain ⟨rfl, c, hc, rfl⟩ := hrel
          by_cases hlt : c < n
          · go_wp2_with fail
            refine (heldLen16 HF1.out c hlt hn).mono ?_
            rintro e w' ⟨rfl, rfl⟩
            rw [show (heldOf [] (c : Int)).length = 0 from rfl]
            go_wp2
            go_round
            case rel => exact ⟨by go_num, c + 1, by omega, by go_num⟩
            case measure => simp [intOf]; omega
          · go_wp2_with fail
            refine (repLen18 HF1.out).mono ?_
            rintro e w' ⟨rfl, rfl⟩
            rw [show (repsOf []).length = 0 from rfl]
            go_wp2_with fail
            refine (holdsLen22 HF1.out).mono ?_
            rintro e w' ⟨rfl, rfl⟩
            rw [show (Ad.distinct ([] : List Stp)).length = 0 from rfl]
            go_wp2_with fail
            refine (targetsLen23 HF1.out).mono ?_
            rintro e w' ⟨rfl, rfl⟩
            rw [show (Ad.distinct (targetsOf [])).length = 0 from rfl]
            go_wp2_with fail
            refine (wild24 HF1.out).mono ?_
            rintro e w' ⟨rfl, rfl⟩
            rw [show wildOf [] = false from rfl]
            go_wp2
            go_ret
            exact ⟨rfl, HB.out⟩
end Go.Proofs.Qxb6608516a.adF
