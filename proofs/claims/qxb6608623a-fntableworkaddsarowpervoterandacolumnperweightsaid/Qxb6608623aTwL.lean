import Derived.Test.Qxb6608623aTwW
import Derived.OpenShut
namespace Go.Proofs.Qxb6608623a.twL
open Go.RowKit
open Go.Proofs.Qxb6608623a.TW (T S T_nat S_nat T_bd S_bd)
open Go.Proofs.Qxb6608623a.twW (tw13 ms14)
set_option linter.unusedVariables false

set_option maxHeartbeats 400000 in
theorem law4 (n t : Int) (n0 : -9223372036854775808 ≤ n) (n1 : n ≤ 9223372036854775807) (t0 : 0 ≤ t) (t1 : t ≤ 18446744073709551615) (w : World) :
    Calls Try.prog 4 #[.int .i64 n, .int .u64 t] w fun e w' => e = .returned (.bool true) ∧ w = w' := by
  by_cases h0 : n < 0
  · go_enter Try.func4, Try.ntmps4
    go_wp2
    go_ret
    exact ⟨rfl, rfl⟩
  by_cases h1 : 1073741824 ≤ n
  · go_enter Try.func4, Try.ntmps4
    go_wp2
    go_ret
    exact ⟨rfl, rfl⟩
  obtain ⟨l1, l2, l3, l4, l5⟩ := TW.law1 n t (by omega) (by omega)
  have b1 : (T 0 0 == 1) = true := by rw [l1]; rfl
  have b2 : (T (n + 1) 0 == T n 0 + n + 2) = true := by rw [l4]; simp
  have b3 : (T n t == S (T n 0) t) = true := by rw [← l5]; simp
  clear l1 l4 l5
  go_enter Try.func4, Try.ntmps4
  go_wp2_with fail
  refine (tw13 _ _ (by omega) (by omega) (by omega) (by omega) _).mono ?_
  rintro e w' ⟨rfl, rfl⟩
  go_wp2_with fail
  refine (tw13 _ _ (by omega) (by omega) (by omega) (by omega) _).mono ?_
  rintro e w' ⟨rfl, rfl⟩
  go_wp2_with fail
  refine (tw13 _ _ (by omega) (by omega) (by omega) (by omega) _).mono ?_
  rintro e w' ⟨rfl, rfl⟩
  go_wp2_with fail
  refine (tw13 _ _ (by omega) (by omega) (by omega) (by omega) _).mono ?_
  rintro e w' ⟨rfl, rfl⟩
  go_wp2_with fail
  refine (ms14 _ _ (by omega) (by omega) (by omega) (by omega) _).mono ?_
  rintro e w' ⟨rfl, rfl⟩
  go_wp2
  go_ret
  exact ⟨rfl, rfl⟩

theorem mul_bd (n : Int) (h0 : 0 ≤ n) (h1 : n < 1073741824) : 1 ≤ (n + 1) * (n + 1) ∧ (n + 1) * (n + 1) ≤ 1152921504606846976 := by
  obtain ⟨k, rfl⟩ := Int.eq_ofNat_of_zero_le h0
  have h : (k + 1) * (k + 1) ≤ 1073741824 * 1073741824 := Nat.mul_le_mul (by omega) (by omega)
  have h' : 1 * 1 ≤ (k + 1) * (k + 1) := Nat.mul_le_mul (by omega) (by omega)
  have e2 : ((k : Int) + 1) * ((k : Int) + 1) = (((k + 1) * (k + 1) : Nat) : Int) := by simp
  rw [e2]
  omega
set_option maxHeartbeats 1000000 in
theorem law5 (n t : Int) (n0 : -9223372036854775808 ≤ n) (n1 : n ≤ 9223372036854775807) (t0 : 0 ≤ t) (t1 : t ≤ 18446744073709551615) (w : World) :
    Calls Try.prog 5 #[.int .i64 n, .int .u64 t] w fun e w' => e = .returned (.bool true) ∧ w = w' := by
  by_cases h0 : n < 0
  · go_enter Try.func5, Try.ntmps5
    go_wp2
    go_ret
    exact ⟨rfl, rfl⟩
  by_cases h1 : 1073741824 ≤ n
  · go_enter Try.func5, Try.ntmps5
    go_wp2
    go_ret
    exact ⟨rfl, rfl⟩
  obtain ⟨l1, l2, l3, l4, l5⟩ := TW.law2 n t (by omega) (by omega) t0
  obtain ⟨m1, m2⟩ := mul_bd n (by omega) (by omega)
  obtain ⟨Q, hQ⟩ : ∃ Q, (n + 1) * (n + 1) = Q := ⟨_, rfl⟩
  have em : IntKind.u64.wrap ((n + 1) * (n + 1)) = Q := by rw [IntKind.wrap_u64]; omega
  rw [hQ] at m1 m2 l2
  have HQ : Hid ((n + 1) * (n + 1) = Q) := hQ
  clear hQ
  have tb := T_bd n t
  have tb2 := T_bd (n + 1) t
  have tb3 := T_bd n (t + 1)
  have sb := S_bd (n + 1) t
  have sb2 := S_bd Q t
  by_cases hM : T n t = 18446744073709551615
  all_goals by_cases ht : t < 18446744073709551615
  · have hb : (T n t != 18446744073709551615) = false := by simp [hM]
    have HM : Hid (T n t = 18446744073709551615) := hM
    clear hM l3
    go_enter Try.func5, Try.ntmps5
    go_wp2_with fail
    refine (tw13 _ _ (by omega) (by omega) (by omega) (by omega) _).mono ?_
    rintro e w' ⟨rfl, rfl⟩
    go_wp2_with fail
    refine (ms14 _ _ (by omega) (by omega) (by omega) (by omega) _).mono ?_
    rintro e w' ⟨rfl, rfl⟩
    go_wp2_with fail
    refine (ms14 _ _ (by omega) (by omega) (by omega) (by omega) _).mono ?_
    rintro e w' ⟨rfl, rfl⟩
    go_wp2_with fail
    refine (tw13 _ _ (by omega) (by omega) (by omega) (by omega) _).mono ?_
    rintro e w' ⟨rfl, rfl⟩
    go_wp2_with fail
    refine (tw13 _ _ (by omega) (by omega) (by omega) (by omega) _).mono ?_
    rintro e w' ⟨rfl, rfl⟩
    go_wp2
    go_ret
    exact ⟨rfl, rfl⟩
  · have hb : (T n t != 18446744073709551615) = false := by simp [hM]
    have HM : Hid (T n t = 18446744073709551615) := hM
    clear hM l3
    go_enter Try.func5, Try.ntmps5
    go_wp2_with fail
    refine (tw13 _ _ (by omega) (by omega) (by omega) (by omega) _).mono ?_
    rintro e w' ⟨rfl, rfl⟩
    go_wp2_with fail
    refine (ms14 _ _ (by omega) (by omega) (by omega) (by omega) _).mono ?_
    rintro e w' ⟨rfl, rfl⟩
    go_wp2_with fail
    refine (ms14 _ _ (by omega) (by omega) (by omega) (by omega) _).mono ?_
    rintro e w' ⟨rfl, rfl⟩
    go_wp2_with fail
    refine (tw13 _ _ (by omega) (by omega) (by omega) (by omega) _).mono ?_
    rintro e w' ⟨rfl, rfl⟩
    go_wp2
    go_ret
    exact ⟨rfl, rfl⟩
  · have hb : (T n t != 18446744073709551615) = true := by simp [hM]
    obtain ⟨_, hm⟩ := l3 hM
    have hm' : (T n t % (t + 1) != 0) = false := by simp [hm]
    clear hm l3
    go_enter Try.func5, Try.ntmps5
    go_wp2_with fail
    refine (tw13 _ _ (by omega) (by omega) (by omega) (by omega) _).mono ?_
    rintro e w' ⟨rfl, rfl⟩
    go_wp2_with fail
    refine (ms14 _ _ (by omega) (by omega) (by omega) (by omega) _).mono ?_
    rintro e w' ⟨rfl, rfl⟩
    go_wp2_with fail
    refine (ms14 _ _ (by omega) (by omega) (by omega) (by omega) _).mono ?_
    rintro e w' ⟨rfl, rfl⟩
    go_wp2_with fail
    refine (tw13 _ _ (by omega) (by omega) (by omega) (by omega) _).mono ?_
    rintro e w' ⟨rfl, rfl⟩
    go_wp2_with fail
    refine (tw13 _ _ (by omega) (by omega) (by omega) (by omega) _).mono ?_
    rintro e w' ⟨rfl, rfl⟩
    go_wp2
    go_ret
    exact ⟨rfl, rfl⟩
  · exact absurd (l3 hM).1 ht
end Go.Proofs.Qxb6608623a.twL
