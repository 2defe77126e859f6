/- THE WALKS of the leaves: addUpTo, satAdd, below, halvesWork, bits.Mul. -/
import Derived.Test.Qxb6608623aTwW
import Derived.Test.Qxb6608623aQmB
import Derived.Laws.Bits64b
namespace Go.Proofs.Qxb6608623a.qmW
open Go.RowKit
open Go.Proofs.Qxb6608623a.Qm
open Go.Proofs.Qxb6608623a.twW (ret_u64)
set_option linter.unusedVariables false

theorem ret_i64 {a b : Int} (h : a = b) : Ending.returned (.int .i64 a) = .returned (.int .i64 b) := by rw [h]
/-- a number that fits a uint64 -/
abbrev U (x : Nat) : Prop := x ≤ 18446744073709551615

theorem add44 (a b lim : Nat) (h : a ≤ lim) (hb : U b) (hl : U lim) (w : World) :
    Calls Try.prog 44 #[.int .u64 a, .int .u64 b, .int .u64 lim] w fun e w' => e = .returned (.int .u64 ((addU a b lim : Nat) : Int)) ∧ w = w' := by
  unfold U at hb hl
  by_cases hc : lim - a ≤ b
  · have e : Hid (addU a b lim = lim) := by show _ = _; unfold addU; rw [if_pos hc]
    go_enter Try.func44, Try.ntmps44
    go_wp2
    go_ret
    exact ⟨ret_u64 (show ((lim : Nat) : Int) = ((addU a b lim : Nat) : Int) by rw [e.out]), rfl⟩
  · have e : Hid (addU a b lim = a + b) := by show _ = _; unfold addU; rw [if_neg hc]
    go_enter Try.func44, Try.ntmps44
    go_wp2
    go_ret
    exact ⟨ret_u64 (show ((a : Nat) : Int) + (b : Int) = ((addU a b lim : Nat) : Int) by rw [e.out]; omega), rfl⟩
theorem add10 (a b lim : Nat) (h : a ≤ lim) (hb : U b) (hl : U lim) (w : World) :
    Calls Try.prog 10 #[.int .u64 a, .int .u64 b, .int .u64 lim] w fun e w' => e = .returned (.int .u64 ((addU a b lim : Nat) : Int)) ∧ w = w' := by
  unfold U at hb hl
  by_cases hc : lim - a ≤ b
  · have e : Hid (addU a b lim = lim) := by show _ = _; unfold addU; rw [if_pos hc]
    go_enter Try.func10, Try.ntmps10
    go_wp2
    go_ret
    exact ⟨ret_u64 (show ((lim : Nat) : Int) = ((addU a b lim : Nat) : Int) by rw [e.out]), rfl⟩
  · have e : Hid (addU a b lim = a + b) := by show _ = _; unfold addU; rw [if_neg hc]
    go_enter Try.func10, Try.ntmps10
    go_wp2
    go_ret
    exact ⟨ret_u64 (show ((a : Nat) : Int) + (b : Int) = ((addU a b lim : Nat) : Int) by rw [e.out]; omega), rfl⟩
theorem below48 (a b : Nat) (ha : U a) (hb : U b) (w : World) :
    Calls Try.prog 48 #[.int .u64 a, .int .u64 b] w fun e w' => e = .returned (.int .u64 ((a - b : Nat) : Int)) ∧ w = w' := by
  unfold U at ha hb
  by_cases hc : a ≤ b
  · have e : Hid (a - b = 0) := by show _ = _; omega
    go_enter Try.func48, Try.ntmps48
    go_wp2
    go_ret
    exact ⟨ret_u64 (show (0 : Int) = ((a - b : Nat) : Int) by rw [e.out]; rfl), rfl⟩
  · go_enter Try.func48, Try.ntmps48
    go_wp2
    go_ret
    exact ⟨ret_u64 (by omega), rfl⟩
theorem half_num (n : Nat) (hc : (n + 1) / 2 ≤ 56) : IntKind.u64.wrap (((n : Int) / 2 + 24) * 2 ^ ((n + 1) / 2)) = (((n / 2 + 24) * 2 ^ ((n + 1) / 2) : Nat) : Int) ∧ (n / 2 + 24) * 2 ^ ((n + 1) / 2) ≤ 18446744073709551615 ∧ (35 ≤ n → 4194304 ≤ (n / 2 + 24) * 2 ^ ((n + 1) / 2)) := by
  have e : ((n : Int) / 2 + 24) * 2 ^ ((n + 1) / 2) = (((n / 2 + 24) * 2 ^ ((n + 1) / 2) : Nat) : Int) := by
    push_cast
    rfl
  have hb : (n / 2 + 24) * 2 ^ ((n + 1) / 2) ≤ 80 * 2 ^ 56 := Nat.mul_le_mul (by omega) (Nat.pow_le_pow_right (by omega) hc)
  refine ⟨?_, Nat.le_trans hb (by decide), fun h => ?_⟩
  · rw [e, IntKind.wrap_u64]
    generalize (n / 2 + 24) * 2 ^ ((n + 1) / 2) = X at *
    have : 80 * 2 ^ 56 ≤ 18446744073709551615 := by decide
    omega
  · calc 4194304 ≤ 41 * 2 ^ 18 := by decide
      _ ≤ _ := Nat.mul_le_mul (by omega) (Nat.pow_le_pow_right (by omega) (by omega))
/-- the halves' work: told where they are many: too much -/
theorem half45 (n : Nat) (h : n ≤ 256) (w : World) :
    Calls Try.prog 45 #[.int .i64 n] w fun e w' => ∃ r : Nat, e = .returned (.int .u64 (r : Int)) ∧ U r ∧ (35 ≤ n → 4194304 ≤ r) ∧ w = w' := by
  by_cases hc : 56 < (n + 1) / 2
  · go_enter Try.func45, Try.ntmps45
    go_wp2
    go_ret
    exact ⟨18446744073709551615, rfl, Nat.le_refl _, fun _ => by decide, rfl⟩
  · obtain ⟨e, h1, h2⟩ := half_num n (by omega)
    have H1 : Hid (U ((n / 2 + 24) * 2 ^ ((n + 1) / 2))) := h1
    have H2 : Hid (35 ≤ n → 4194304 ≤ (n / 2 + 24) * 2 ^ ((n + 1) / 2)) := h2
    have HE : Hid (IntKind.u64.wrap (((n : Int) / 2 + 24) * 2 ^ ((n + 1) / 2)) = (((n / 2 + 24) * 2 ^ ((n + 1) / 2) : Nat) : Int)) := e
    clear e h1 h2
    go_enter Try.func45, Try.ntmps45
    go_wp2
    go_ret
    exact ⟨_, ret_u64 HE.out, H1.out, H2.out, rfl⟩
theorem and_low (n : Nat) (h : n ≤ 4294967295) : bits .and .u64 (n : Int) 4294967295 = (n : Int) := by
  have := bits_and_u64_nat n 4294967295 (by omega) (by omega)
  rw [show (4294967295 : Nat) = 2 ^ 32 - 1 from rfl, Nat.and_two_pow_sub_one_eq_mod, Nat.mod_eq_of_lt (by omega)] at this
  exact this
/-- bits.Mul64 of 1 -/
theorem mul59 (n : Nat) (h : n ≤ 4294967295) (w : World) :
    Calls Try.prog 59 #[.int .u64 1, .int .u64 n] w fun e w' => e = .returned (.tuple #[.int .u64 0, .int .u64 n]) ∧ w = w' := by
  have e1 : bits .and .u64 1 4294967295 = 1 := and_low 1 (by omega)
  have e2 := and_low n h
  have e0 : bits .and .u64 0 4294967295 = 0 := and_low 0 (by omega)
  have e3 : (n : Int) / 4294967296 = 0 := by omega
  go_enter Try.func59, Try.ntmps59
  go_wp2
  go_ret2
  exact ⟨rfl, rfl⟩
theorem mul56 (n : Nat) (h : n ≤ 4294967295) (w : World) :
    Calls Try.prog 56 #[.int .u64 1, .int .u64 n] w fun e w' => e = .returned (.tuple #[.int .u64 0, .int .u64 n]) ∧ w = w' := by
  go_enter Try.func56, Try.ntmps56
  go_wp2_with (go_at_call 59; refine (mul59 n h _).mono ?_; rintro e w' ⟨rfl, rfl⟩)
  go_ret2
  exact ⟨rfl, rfl⟩
theorem and_u (a c : Nat) (ha : a ≤ 18446744073709551615) (hc : c ≤ 18446744073709551615) : bits .and .u64 (a : Int) (c : Int) = ((a &&& c : Nat) : Int) := bits_and_u64_nat a c (by omega) (by omega)
theorem st1 (x : Nat) (h : x < 131072) : IntKind.u64.wrap (bits .and .u64 ((x : Int) / 2) 6148914691236517205 + bits .and .u64 (x : Int) 6148914691236517205) = ((s1 x : Nat) : Int) := by
  have a := and_u (x / 2) 6148914691236517205 (by omega) (by omega)
  have b := and_u x 6148914691236517205 (by omega) (by omega)
  rw [show ((x : Int) / 2) = ((x / 2 : Nat) : Int) from rfl, show (6148914691236517205 : Int) = ((6148914691236517205 : Nat) : Int) from rfl, a, b, IntKind.wrap_u64]
  have := (ones x h).2.1
  unfold s1 at this ⊢
  omega
theorem st2 (x : Nat) (h : x < 4294967296) (h2 : s2 x < 4294967296) : IntKind.u64.wrap (bits .and .u64 ((x : Int) / 4) 3689348814741910323 + bits .and .u64 (x : Int) 3689348814741910323) = ((s2 x : Nat) : Int) := by
  have a := and_u (x / 4) 3689348814741910323 (by omega) (by omega)
  have b := and_u x 3689348814741910323 (by omega) (by omega)
  rw [show ((x : Int) / 4) = ((x / 4 : Nat) : Int) from rfl, show (3689348814741910323 : Int) = ((3689348814741910323 : Nat) : Int) from rfl, a, b, IntKind.wrap_u64]
  unfold s2 at h2 ⊢
  omega
theorem st3 (x : Nat) (h : x < 4294967296) : bits .and .u64 ((x : Int) / 16 + (x : Int)) 1085102592571150095 = ((s3 x : Nat) : Int) := by
  have a := and_u (x / 16 + x) 1085102592571150095 (by omega) (by omega)
  exact a
/-- bits.OnesCount64 of a mask of at most 17 bits -/
theorem ones54 (m : List Bool) (h : m.length ≤ 17) (w : World) :
    Calls Try.prog 54 #[.int .u64 (val m : Nat)] w fun e w' => e = .returned (.int .i64 (cnt m : Nat)) ∧ w = w' := by
  obtain ⟨hc, hv⟩ := ones_cnt m h
  obtain ⟨-, k1, k2, k3⟩ := ones (val m) hv
  have e1 := st1 (val m) hv
  have e2 := st2 (s1 (val m)) k1 k2
  have e3 := st3 (s2 (s1 (val m))) k2
  have HC : Hid (cnt m = s6 (s5 (s4 (s3 (s2 (s1 (val m)))))) % 128) := hc.symm
  generalize hx3 : s3 (s2 (s1 (val m))) = x3 at *
  generalize hx2 : s2 (s1 (val m)) = x2 at *
  generalize hx1 : s1 (val m) = x1 at *
  generalize hx : val m = x at *
  clear hx1 hx2 hx3 hx hc
  have e4 : bits .and .i64 ((x3 : Int) + (x3 : Int) / 256 + ((x3 : Int) + (x3 : Int) / 256) / 65536 + ((x3 : Int) + (x3 : Int) / 256 + ((x3 : Int) + (x3 : Int) / 256) / 65536) / 4294967296) 127 = ((s6 (s5 (s4 x3)) % 128 : Nat) : Int) := by
    have := bits_mask .i64 62 (by decide) (fun n h0 h1 => by rw [IntKind.wrap_i64]; omega) 7 (by omega) ((s6 (s5 (s4 x3)) : Nat) : Int) (by omega) (by unfold s6 s5 s4; omega)
    exact this
  generalize s6 (s5 (s4 x3)) % 128 = r at *
  go_enter Try.func54, Try.ntmps54
  go_wp2
  go_ret
  exact ⟨ret_i64 (show ((r : Nat) : Int) = ((cnt m : Nat) : Int) by rw [HC.out]), rfl⟩
end Go.Proofs.Qxb6608623a.qmW
