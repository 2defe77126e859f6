import Derived.Test.Qxb6608623aProg
import Derived.Test.Qxb6608623aTwP
import Derived.WalkKit
import Derived.WalkLawsBesides
namespace Go.Proofs.Qxb6608623a.twW
open Go.RowKit
set_option linter.unusedVariables false
open Go.Proofs.Qxb6608623a.TW (T S T_nat S_nat T_bd S_bd)

theorem ret_u64 {a b : Int} (h : a = b) : Ending.returned (.int .u64 a) = .returned (.int .u64 b) := by rw [h]

set_option maxHeartbeats 400000 in
theorem tw26n (n t : Nat) (h1 : n ≤ 1073741824) (t1 : t ≤ 18446744073709551615) (w : World) :
    Calls Try.prog 26 #[.int .i64 n, .int .u64 t] w fun e w' => e = .returned (.int .u64 (T n t)) ∧ w = w' := by
  have e1 : IntKind.u64.wrap ((IntKind.u64.wrap (((n : Int) + 1) * ((n : Int) + 2))).tdiv 2) = ((TW.rows n : Nat) : Int) := by
    rw [IntKind.wrap_u64, IntKind.wrap_u64]; exact TW.wrap_rows n h1
  have e2 : IntKind.u64.wrap (Int.tdiv 18446744073709551615 ((TW.rows n : Nat) : Int)) = ((TW.M / TW.rows n : Nat) : Int) := by
    rw [IntKind.wrap_u64]; exact TW.wrap_div _
  have hr : 1 ≤ TW.rows n := by have := TW.rows_low n; omega
  have hd0 : TW.M / TW.rows n ≤ 18446744073709551615 := Nat.div_le_self _ _
  by_cases hd : TW.M / TW.rows n ≤ t
  · have hfin : Hid (T n t = 18446744073709551615) := by
      show T n t = 18446744073709551615
      rw [T_nat]; unfold TW.tw; rw [if_pos hd]; rfl
    generalize TW.M / TW.rows n = D at *
    generalize TW.rows n = R at *
    go_enter Try.func26, Try.ntmps26
    go_wp2
    go_ret
    exact ⟨ret_u64 hfin.out.symm, rfl⟩
  · have e3 : IntKind.u64.wrap (((TW.rows n : Nat) : Int) * ((t : Int) + 1)) = ((TW.rows n * (t + 1) : Nat) : Int) := by
      rw [IntKind.wrap_u64]; exact TW.mul_fits _ _ hr (by omega)
    have hfin : Hid (T n t = ((TW.rows n * (t + 1) : Nat) : Int)) := by
      show T n t = _
      rw [T_nat]; unfold TW.tw; rw [if_neg hd]
    generalize TW.M / TW.rows n = D at *
    generalize TW.rows n = R at *
    generalize ((R * (t + 1) : Nat) : Int) = X at *
    go_enter Try.func26, Try.ntmps26
    go_wp2
    go_ret
    exact ⟨ret_u64 hfin.out.symm, rfl⟩

theorem tw26 (n t : Int) (h0 : 0 ≤ n) (h1 : n ≤ 1073741824) (t0 : 0 ≤ t) (t1 : t ≤ 18446744073709551615) (w : World) :
    Calls Try.prog 26 #[.int .i64 n, .int .u64 t] w fun e w' => e = .returned (.int .u64 (T n t)) ∧ w = w' := by
  obtain ⟨n, rfl⟩ := Int.eq_ofNat_of_zero_le h0
  obtain ⟨t, rfl⟩ := Int.eq_ofNat_of_zero_le t0
  exact tw26n n t (by omega) (by omega) w

theorem tw13 (n t : Int) (h0 : 0 ≤ n) (h1 : n ≤ 1073741824) (t0 : 0 ≤ t) (t1 : t ≤ 18446744073709551615) (w : World) :
    Calls Try.prog 13 #[.int .i64 n, .int .u64 t] w fun e w' => e = .returned (.int .u64 (T n t)) ∧ w = w' := by
  go_enter Try.func13, Try.ntmps13
  go_wp2_with (go_at_call 26; refine (tw26 _ _ h0 h1 t0 t1 _).mono ?_; rintro e w' ⟨rfl, rfl⟩)
  go_ret
  exact ⟨rfl, rfl⟩

set_option maxHeartbeats 400000 in
theorem ms14n (a t : Nat) (h0 : 1 ≤ a) (h1 : a ≤ 18446744073709551615) (t1 : t ≤ 18446744073709551615) (w : World) :
    Calls Try.prog 14 #[.int .u64 a, .int .u64 t] w fun e w' => e = .returned (.int .u64 (S a t)) ∧ w = w' := by
  by_cases ht : t = 18446744073709551615
  · have hb : ((t : Int) == 18446744073709551615) = true := by subst ht; rfl
    have hfin : Hid (S a t = 18446744073709551615) := by
      show S a t = _
      rw [S_nat, ht, show (18446744073709551615 : Nat) = TW.M from rfl, TW.sat_max h0]; rfl
    clear ht
    go_enter Try.func14, Try.ntmps14
    go_wp2
    go_ret
    exact ⟨ret_u64 hfin.out.symm, rfl⟩
  · have hlt : t < 18446744073709551615 := by omega
    clear ht
    have hb : ((t : Int) == 18446744073709551615) = false := by rw [beq_eq_false_iff_ne]; omega
    obtain ⟨q, hq⟩ : ∃ q, IntKind.u64.wrap ((a : Int) * ((t : Int) + 1)) = q := ⟨_, rfl⟩
    obtain ⟨d, hd⟩ : ∃ d, IntKind.u64.wrap (q.tdiv ((t : Int) + 1)) = d := ⟨_, rfl⟩
    have hs := TW.sat_walk a t q (by rw [← hq, IntKind.wrap_u64])
    rw [← IntKind.wrap_u64, hd] at hs
    by_cases c : d = (a : Int)
    · have hfin : Hid (S a t = q) := by
        show S a t = q
        rw [S_nat]; exact (hs.1 c).symm
      have hc : (d != (a : Int)) = false := by simp [c]
      clear hs c
      go_enter Try.func14, Try.ntmps14
      go_wp2
      go_ret
      exact ⟨ret_u64 hfin.out.symm, rfl⟩
    · have hfin : Hid (S a t = 18446744073709551615) := by
        show S a t = _
        rw [S_nat, hs.2 c]; rfl
      have hc : (d != (a : Int)) = true := by simp [c]
      clear hs c
      go_enter Try.func14, Try.ntmps14
      go_wp2
      go_ret
      exact ⟨ret_u64 hfin.out.symm, rfl⟩
theorem ms14 (a t : Int) (h0 : 1 ≤ a) (h1 : a ≤ 18446744073709551615) (t0 : 0 ≤ t) (t1 : t ≤ 18446744073709551615) (w : World) :
    Calls Try.prog 14 #[.int .u64 a, .int .u64 t] w fun e w' => e = .returned (.int .u64 (S a t)) ∧ w = w' := by
  obtain ⟨a, rfl⟩ := Int.eq_ofNat_of_zero_le (show 0 ≤ a by omega)
  obtain ⟨t, rfl⟩ := Int.eq_ofNat_of_zero_le t0
  exact ms14n a t (by omega) (by omega) (by omega) w
end Go.Proofs.Qxb6608623a.twW
