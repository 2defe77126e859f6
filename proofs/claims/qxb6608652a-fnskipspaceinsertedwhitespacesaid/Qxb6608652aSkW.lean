import Derived.Test.Qxb6608652aProg
import Derived.Test.Qxb6608652aSkP
import Derived.WalkKit
import Derived.WalkLawsBesides
namespace Go.Proofs.Qxb6608652a.skW
open Go.RowKit
open Go.Proofs.Qxb6608652a.Sk (ws IsSkip)
set_option linter.unusedVariables false

theorem ret_bool {a b : Bool} (h : a = b) : Ending.returned (.bool a) = .returned (.bool b) := by rw [h]

/-- the cells of a slice at address a read as the numbers xs -/
def Rd (w : World) (a : Option Addr) (xs : List Int) : Prop :=
  xs = [] ∨ ∃ b o, a = some ⟨b, o, none⟩ ∧ ∀ i, i < xs.length → w.cell? ⟨b, o + i, none⟩ = some (.int .u8 (xs.getD i 0))

theorem isws (x : Int) (w : World) : Calls Try.prog 11 #[.int .u8 x] w fun e w' => e = .returned (.bool (ws x)) ∧ w = w' := by
  by_cases h1 : x = 32
  · have hf : Hid (ws x = true) := by show ws x = true; simp [ws, h1]
    have b1 : (x == 32) = true := by simp [h1]
    clear h1
    go_enter Try.func11, Try.ntmps11
    go_wp2
    go_ret
    exact ⟨ret_bool hf.out.symm, rfl⟩
  have b1 : (x == 32) = false := by simp [h1]
  by_cases h2 : x = 9
  · have hf : Hid (ws x = true) := by show ws x = true; simp [ws, h2]
    have b2 : (x == 9) = true := by simp [h2]
    clear h1 h2
    go_enter Try.func11, Try.ntmps11
    go_wp2
    go_ret
    exact ⟨ret_bool hf.out.symm, rfl⟩
  have b2 : (x == 9) = false := by simp [h2]
  by_cases h3 : x = 13
  · have hf : Hid (ws x = true) := by show ws x = true; simp [ws, h3]
    have b3 : (x == 13) = true := by simp [h3]
    clear h1 h2 h3
    go_enter Try.func11, Try.ntmps11
    go_wp2
    go_ret
    exact ⟨ret_bool hf.out.symm, rfl⟩
  have b3 : (x == 13) = false := by simp [h3]
  by_cases h4 : x = 10
  · have hf : Hid (ws x = true) := by show ws x = true; simp [ws, h4]
    have b4 : (x == 10) = true := by simp [h4]
    clear h1 h2 h3 h4
    go_enter Try.func11, Try.ntmps11
    go_wp2
    go_ret
    exact ⟨ret_bool hf.out.symm, rfl⟩
  have b4 : (x == 10) = false := by simp [h4]
  have hf : Hid (ws x = false) := by show ws x = false; simp [ws, h1, h2, h3, h4]
  clear h1 h2 h3 h4
  go_enter Try.func11, Try.ntmps11
  go_wp2
  go_ret
  exact ⟨ret_bool hf.out.symm, rfl⟩

theorem ws_yes {x : Int} (h : ws x = true) : (x == 32) = true ∨ ((x == 32) = false ∧ (x == 9) = true) ∨ ((x == 32) = false ∧ (x == 9) = false ∧ (x == 13) = true) ∨ ((x == 32) = false ∧ (x == 9) = false ∧ (x == 13) = false ∧ (x == 10) = true) := by
  unfold ws at h
  generalize (x == 32) = p1 at *
  generalize (x == 9) = p2 at *
  generalize (x == 13) = p3 at *
  generalize (x == 10) = p4 at *
  revert h
  cases p1 <;> cases p2 <;> cases p3 <;> cases p4 <;> decide
theorem ws_no {x : Int} (h : ws x = false) : (x == 32) = false ∧ (x == 9) = false ∧ (x == 13) = false ∧ (x == 10) = false := by
  unfold ws at h
  generalize (x == 32) = p1 at *
  generalize (x == 9) = p2 at *
  generalize (x == 13) = p3 at *
  generalize (x == 10) = p4 at *
  revert h
  cases p1 <;> cases p2 <;> cases p3 <;> cases p4 <;> decide
theorem skip_nil : IsSkip [] 0 0 := ⟨Nat.le_refl _, Nat.le_refl _, fun k h1 h2 => absurd h2 (by omega), fun h => absurd h (by simp)⟩
theorem all_step {xs : List Int} {i k : Nat} {x : Int} (hx : x = xs.getD k 0) (hall : ∀ j, i ≤ j → j < k → ws (xs.getD j 0) = true) (hw : ws x = true) :
    ∀ j, i ≤ j → j < k + 1 → ws (xs.getD j 0) = true := by
  intro j h1 h2
  by_cases h : j < k
  · exact hall j h1 h
  · obtain rfl : j = k := by omega
    rw [← hx]; exact hw

set_option maxHeartbeats 1000000 in
theorem skip19 (a : Option Addr) (n cap : Nat) (xs : List Int) (i : Nat) (hn : xs.length = n) (hl : n ≤ 2097152) (hi : i ≤ n) (w : World) (hr : Rd w a xs) :
    Calls Try.prog 19 #[.slice a n cap, .int .i64 i] w fun e w' => ∃ r : Nat, e = .returned (.int .i64 r) ∧ IsSkip xs i r ∧ w = w' := by
  rcases hr with rfl | ⟨b, o, rfl, hcell⟩
  · obtain rfl : n = 0 := by simpa using hn.symm
    obtain rfl : i = 0 := by omega
    go_enter Try.func19, Try.ntmps19
    go_wp2
    refine wp_loop_rounds 1 ?_
    rw [rounds_succ]
    go_wp2
    go_ret
    exact ⟨0, rfl, skip_nil, rfl⟩
  · go_enter Try.func19, Try.ntmps19
    go_wp2
    go_loop [1] (fun v => ∃ k : Nat, i ≤ k ∧ k ≤ n ∧ v = .int .i64 k ∧ ∀ j, i ≤ j → j < k → ws (xs.getD j 0) = true) (fun v => n - (intOf v).toNat)
    case atStart => exact ⟨i, Nat.le_refl _, hi, rfl, fun j h1 h2 => absurd h2 (by omega)⟩
    case round =>
      obtain ⟨k, hik, hk, rfl, hall⟩ := hrel
      have HA : Hid (∀ j, i ≤ j → j < k → ws (xs.getD j 0) = true) := hall
      by_cases hlt : k < n
      · obtain ⟨x, hx⟩ : ∃ x, x = xs.getD k 0 := ⟨_, rfl⟩
        have hc : w.cell? ⟨b, o + k, none⟩ = some (.int .u8 x) := by rw [hx]; exact hcell k (by omega)
        have HX : Hid (x = xs.getD k 0) := hx
        clear hx hall hcell
        by_cases hw : ws x = true
        · have HW : Hid (ws x = true) := hw
          have hcs := ws_yes hw
          clear hw
          rcases hcs with c1 | ⟨c1, c2⟩ | ⟨c1, c2, c3⟩ | ⟨c1, c2, c3, c4⟩
          all_goals
            go_wp2
            go_round
            case rel => exact ⟨k + 1, by omega, by omega, by go_num, all_step HX.out HA.out HW.out⟩
            case measure => simp [intOf]; omega
        · have HW : Hid (ws x = false) := Bool.eq_false_iff.2 hw
          have hcs := ws_no (Bool.eq_false_iff.2 hw)
          clear hw
          obtain ⟨c1, c2, c3, c4⟩ := hcs
          go_wp2
          go_ret
          exact ⟨k, rfl, ⟨hik, by omega, HA.out, fun _ => by rw [← HX.out]; exact HW.out⟩, rfl⟩
      · clear hcell hall
        go_wp2
        go_ret
        exact ⟨k, rfl, ⟨hik, by omega, HA.out, fun h => absurd h (by omega)⟩, rfl⟩

theorem skip8 (a : Option Addr) (n cap : Nat) (xs : List Int) (i : Nat) (hn : xs.length = n) (hl : n ≤ 2097152) (hi : i ≤ n) (w : World) (hr : Rd w a xs) :
    Calls Try.prog 8 #[.slice a n cap, .int .i64 i] w fun e w' => ∃ r : Nat, e = .returned (.int .i64 r) ∧ IsSkip xs i r ∧ w = w' := by
  have HN : Hid (xs.length = n) := hn
  clear hn
  go_enter Try.func8, Try.ntmps8
  go_wp2_with fail
  refine (skip19 a n cap xs i HN.out hl hi _ hr).mono ?_
  rintro e w' ⟨r, rfl, h, rfl⟩
  go_wp2
  go_ret
  exact ⟨r, rfl, h, rfl⟩

set_option maxHeartbeats 1000000 in
theorem lands9 (a : Option Addr) (n cap : Nat) (xs : List Int) (i r : Nat) (hn : xs.length = n) (hl : n ≤ 2097152) (w : World) (hr : Rd w a xs) (hs : IsSkip xs i r) :
    Calls Try.prog 9 #[.slice a n cap, .int .i64 i, .int .i64 r] w fun e w' => e = .returned (.bool true) ∧ w = w' := by
  obtain ⟨h1, h2, h3, h4⟩ := hs
  rcases hr with rfl | ⟨b, o, rfl, hcell⟩
  · obtain rfl : n = 0 := by simpa using hn.symm
    obtain rfl : r = 0 := by simpa using h2
    obtain rfl : i = 0 := by omega
    clear h3 h4
    go_enter Try.func9, Try.ntmps9
    go_wp2
    refine wp_loop_rounds 1 ?_
    rw [rounds_succ]
    go_wp2
    go_ret
    exact ⟨rfl, rfl⟩
  · rw [hn] at h2 h4
    have HN : Hid (xs.length = n) := hn
    clear hn
    have H3 : Hid (∀ k, i ≤ k → k < r → ws (xs.getD k 0) = true) := h3
    have H4 : Hid (r < n → ws (xs.getD r 0) = false) := h4
    have HC : Hid (∀ i, i < xs.length → w.cell? ⟨b, o + i, none⟩ = some (.int .u8 (xs.getD i 0))) := hcell
    clear h3 h4 hcell
    have d1 : decide (r < i) = false := decide_eq_false (by omega)
    have d2 : decide (n < r) = false := decide_eq_false (by omega)
    go_enter Try.func9, Try.ntmps9
    go_wp2
    go_loop [7] (fun v => ∃ k : Nat, i ≤ k ∧ k ≤ r ∧ v = .int .i64 k) (fun v => r - (intOf v).toNat)
    case atStart => exact ⟨i, Nat.le_refl _, h1, rfl⟩
    case round =>
      obtain ⟨k, hik, hk, rfl⟩ := hrel
      by_cases hlt : k < r
      · obtain ⟨x, hx⟩ : ∃ x, x = xs.getD k 0 := ⟨_, rfl⟩
        have hc : w.cell? ⟨b, o + k, none⟩ = some (.int .u8 x) := by rw [hx]; exact HC.out k (by rw [HN.out]; omega)
        have hw : ws x = true := by rw [hx]; exact H3.out k hik hlt
        clear hx
        go_wp2_with fail
        refine (isws x _).mono ?_
        rintro e w' ⟨rfl, rfl⟩
        go_wp2
        go_round
        case rel => exact ⟨k + 1, by omega, by omega, by go_num⟩
        case measure => simp [intOf]; omega
      · by_cases hrn : r < n
        · obtain ⟨x, hx⟩ : ∃ x, x = xs.getD r 0 := ⟨_, rfl⟩
          have hc : w.cell? ⟨b, o + r, none⟩ = some (.int .u8 x) := by rw [hx]; exact HC.out r (by rw [HN.out]; omega)
          have hw : ws x = false := by rw [hx]; exact H4.out hrn
          have hb : ((r : Int) == (n : Int)) = false := by rw [beq_eq_false_iff_ne]; omega
          clear hx
          go_wp2_with (go_at_call 11; refine (isws x _).mono ?_; rintro e w' ⟨rfl, rfl⟩)
          go_ret
          exact ⟨rfl, rfl⟩
        · have hb : ((r : Int) == (n : Int)) = true := by rw [beq_iff_eq]; omega
          go_wp2
          go_ret
          exact ⟨rfl, rfl⟩
end Go.Proofs.Qxb6608652a.skW
