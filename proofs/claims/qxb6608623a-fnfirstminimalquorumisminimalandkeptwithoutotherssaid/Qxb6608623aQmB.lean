/- THE NUMBER OF ONES in a mask of at most 17 bits, as bits.OnesCount64 counts them. No Go in sight. -/
import Derived.Test.Qxb6608623aQmH
namespace Go.Proofs.Qxb6608623a.Qm
set_option linter.unusedVariables false

def pcf : Nat → Nat → Nat
  | 0, _ => 0
  | k + 1, x => x % 2 + pcf k (x / 2)

theorem pcf_add : ∀ i j x, pcf (i + j) x = pcf i (x % 2 ^ i) + pcf j (x / 2 ^ i)
  | 0, j, x => by simp [pcf]
  | i + 1, j, x => by
    rw [show i + 1 + j = (i + j) + 1 by omega]
    simp only [pcf]
    rw [pcf_add i j (x / 2)]
    have e1 : x % 2 ^ (i + 1) % 2 = x % 2 := by
      rw [Nat.pow_succ, Nat.mod_mul_left_mod]
    have e2 : x % 2 ^ (i + 1) / 2 = x / 2 % 2 ^ i := by
      rw [Nat.pow_succ', Nat.mod_mul_right_div_self]
    rw [e1, e2, Nat.div_div_eq_div_mul, show 2 * 2 ^ i = 2 ^ (i + 1) from (Nat.pow_succ').symm]
    omega

theorem cnt_pcf : ∀ (k : Nat) (m : List Bool), m.length = k → cnt m = pcf k (val m)
  | 0, m, h => by
    simp at h
    subst h
    rfl
  | k + 1, m, h => by
    obtain ⟨x, b, rfl, hx⟩ := snoc_of h
    rw [cnt_append, val_snoc, cnt_pcf k x hx]
    simp only [pcf]
    cases b
    · simp [cnt]
    · simp only [if_true, cnt]
      rw [show (2 * val x + 1) % 2 = 1 by omega, show (2 * val x + 1) / 2 = val x by omega]
      omega
theorem pcf_more : ∀ (k j x : Nat), x < 2 ^ k → pcf (k + j) x = pcf k x := by
  intro k j x h
  have z : ∀ j, pcf j 0 = 0 := by
    intro j
    induction j with
    | zero => rfl
    | succ j ih => simp [pcf, ih]
  rw [pcf_add, Nat.mod_eq_of_lt h, Nat.div_eq_of_lt h, z]
  omega

def By (a b c : Nat) : Nat := 65536 * a + 256 * b + c
theorem land256 (a r c s : Nat) (hr : r < 256) (hs : s < 256) : (256 * a + r) &&& (256 * c + s) = 256 * (a &&& c) + (r &&& s) := by
  have hrs : r &&& s < 2 ^ 8 := Nat.and_lt_two_pow _ hs
  apply Nat.eq_of_testBit_eq
  intro j
  rw [Nat.testBit_and, show (256 : Nat) = 2 ^ 8 from rfl, Nat.testBit_two_pow_mul_add _ hr, Nat.testBit_two_pow_mul_add _ hs, Nat.testBit_two_pow_mul_add _ hrs]
  split <;> rw [Nat.testBit_and]
theorem landBy (a b c a' b' c' : Nat) (hb : b < 256) (hc : c < 256) (hb' : b' < 256) (hc' : c' < 256) : By a b c &&& By a' b' c' = By (a &&& a') (b &&& b') (c &&& c') := by
  have e : ∀ x y z, By x y z = 256 * (256 * x + y) + z := fun x y z => by unfold By; omega
  rw [e, e, e, land256 _ _ _ _ hc hc', land256 _ _ _ _ hb hb']

def s1 (x : Nat) : Nat := ((x / 2) &&& 6148914691236517205) + (x &&& 6148914691236517205)
def s2 (x : Nat) : Nat := ((x / 4) &&& 3689348814741910323) + (x &&& 3689348814741910323)
def s3 (x : Nat) : Nat := (x / 16 + x) &&& 1085102592571150095
def b1 (r : Nat) : Nat := ((r / 2) &&& 85) + (r &&& 85)
def b2 (r : Nat) : Nat := ((r / 4) &&& 51) + (r &&& 51)

theorem m1 : 6148914691236517205 = By 93824992236885 85 85 := rfl
theorem m2 : 3689348814741910323 = By 56294995342131 51 51 := rfl
theorem m3 : 1085102592571150095 = By 16557351571215 15 15 := rfl

theorem b1_of : ∀ t, t < 2 → ∀ r, r < 256 → ((128 * t + r / 2) &&& 85) + (r &&& 85) = b1 r ∧ b1 r < 256 := by decide +kernel
theorem b2_of : ∀ t, t < 4 → ∀ r, r < 256 → ((64 * t + r / 4) &&& 51) + (r &&& 51) = b2 r ∧ b2 r < 256 := by decide +kernel
theorem b3_of : ∀ t, t < 5 → ∀ r, r < 256 → (16 * t + (b2 (b1 r) / 16 + b2 (b1 r))) &&& 15 = pcf 8 r ∧ 16 * t + (b2 (b1 r) / 16 + b2 (b1 r)) < 256 ∧ b2 (b1 r) % 16 < 5 ∧ b2 (b1 r) < 256 := by decide +kernel
theorem a1_of : ∀ a, a < 2 → ((a / 2) &&& 93824992236885) + (a &&& 93824992236885) = a := by decide
theorem a2_of : ∀ a, a < 2 → ((a / 4) &&& 56294995342131) + (a &&& 56294995342131) = a := by decide
theorem a3_of : ∀ a, a < 2 → (a / 16 + a) &&& 16557351571215 = a := by decide

theorem s1_By (a b c : Nat) (ha : a < 2) (hb : b < 256) (hc : c < 256) : s1 (By a b c) = By a (b1 b) (b1 c) := by
  have e : By a b c / 2 = By (a / 2) (128 * (a % 2) + b / 2) (128 * (b % 2) + c / 2) := by unfold By; omega
  unfold s1
  rw [e, m1, landBy _ _ _ _ _ _ (by omega) (by omega) (by omega) (by omega), landBy _ _ _ _ _ _ hb hc (by omega) (by omega)]
  have h1 := a1_of a ha
  have h2 := (b1_of (a % 2) (by omega) b hb).1
  have h3 := (b1_of (b % 2) (by omega) c hc).1
  unfold By
  omega
theorem s2_By (a b c : Nat) (ha : a < 2) (hb : b < 256) (hc : c < 256) : s2 (By a b c) = By a (b2 b) (b2 c) := by
  have e : By a b c / 4 = By (a / 4) (64 * (a % 4) + b / 4) (64 * (b % 4) + c / 4) := by unfold By; omega
  unfold s2
  rw [e, m2, landBy _ _ _ _ _ _ (by omega) (by omega) (by omega) (by omega), landBy _ _ _ _ _ _ hb hc (by omega) (by omega)]
  have h1 := a2_of a ha
  have h2 := (b2_of (a % 4) (by omega) b hb).1
  have h3 := (b2_of (b % 4) (by omega) c hc).1
  unfold By
  omega
theorem s3_By (a b c : Nat) (ha : a < 2) (hb : b < 256) (hc : c < 256) : s3 (By a (b2 (b1 b)) (b2 (b1 c))) = By a (pcf 8 b) (pcf 8 c) := by
  obtain ⟨h2, k2, l2, n2⟩ := b3_of (a % 16) (by omega) b hb
  obtain ⟨h3, k3, l3, n3⟩ := b3_of (b2 (b1 b) % 16) l2 c hc
  have e : By a (b2 (b1 b)) (b2 (b1 c)) / 16 + By a (b2 (b1 b)) (b2 (b1 c)) = By (a / 16 + a) (16 * (a % 16) + (b2 (b1 b) / 16 + b2 (b1 b))) (16 * (b2 (b1 b) % 16) + (b2 (b1 c) / 16 + b2 (b1 c))) := by unfold By; omega
  unfold s3
  rw [e, m3, landBy _ _ _ _ _ _ k2 k3 (by omega) (by omega), a3_of a ha, h2, h3]

/-- the last sums -/
def s4 (x : Nat) : Nat := x + x / 256
def s5 (x : Nat) : Nat := x + x / 65536
def s6 (x : Nat) : Nat := x + x / 4294967296

theorem pc8_le : ∀ r, r < 256 → pcf 8 r ≤ 8 := by decide +kernel

theorem ones (x : Nat) (hx : x < 131072) : s6 (s5 (s4 (s3 (s2 (s1 x))))) % 128 = pcf 17 x ∧ s1 x < 4294967296 ∧ s2 (s1 x) < 4294967296 ∧ s3 (s2 (s1 x)) < 4294967296 := by
  have e : x = By (x / 65536) (x / 256 % 256) (x % 256) := by unfold By; omega
  have h := pcf_add 8 9 x
  have h' := pcf_add 8 1 (x / 2 ^ 8)
  have p1 := pc8_le (x % 256) (by omega)
  have p2 := pc8_le (x / 256 % 256) (by omega)
  have q1 := (b1_of 0 (by omega) (x / 256 % 256) (by omega)).2
  have q2 := (b1_of 0 (by omega) (x % 256) (by omega)).2
  have q3 := (b2_of 0 (by omega) (b1 (x / 256 % 256)) q1).2
  have q4 := (b2_of 0 (by omega) (b1 (x % 256)) q2).2
  have k1 : s1 x = By (x / 65536) (b1 (x / 256 % 256)) (b1 (x % 256)) := by
    conv => lhs; rw [e]
    exact s1_By _ _ _ (by omega) (by omega) (by omega)
  have k2 : s2 (s1 x) = By (x / 65536) (b2 (b1 (x / 256 % 256))) (b2 (b1 (x % 256))) := by
    rw [k1]; exact s2_By _ _ _ (by omega) q1 q2
  have k3 : s3 (s2 (s1 x)) = By (x / 65536) (pcf 8 (x / 256 % 256)) (pcf 8 (x % 256)) := by
    rw [k2]; exact s3_By _ _ _ (by omega) (by omega) (by omega)
  have h17 : pcf 17 x = x / 65536 + pcf 8 (x / 256 % 256) + pcf 8 (x % 256) := by
    rw [show 17 = 8 + 9 from rfl, h, show 9 = 8 + 1 from rfl, h']
    have : pcf 1 (x / 2 ^ 8 / 2 ^ 8) = x / 65536 := by
      simp only [pcf]
      omega
    rw [this]
    simp only [show (2 : Nat) ^ 8 = 256 from rfl]
    omega
  refine ⟨?_, ?_, ?_, ?_⟩
  · rw [h17, k3]
    generalize pcf 8 (x / 256 % 256) = p at *
    generalize pcf 8 (x % 256) = q at *
    have ha : x / 65536 < 2 := by omega
    generalize x / 65536 = a at *
    clear h h' e k1 k2 k3 h17
    have e4 : s4 (By a p q) = By a (p + a) (q + p) := by unfold s4 By; omega
    have e5 : s5 (By a (p + a) (q + p)) = By a (p + a) (q + p + a) := by unfold s5 By; omega
    have e6 : s6 (By a (p + a) (q + p + a)) = By a (p + a) (q + p + a) := by unfold s6 By; omega
    rw [e4, e5, e6]
    unfold By
    omega
  · rw [k1]; unfold By; omega
  · rw [k2]; unfold By; omega
  · rw [k3]; unfold By; omega

theorem ones_cnt (m : List Bool) (h : m.length ≤ 17) : s6 (s5 (s4 (s3 (s2 (s1 (val m)))))) % 128 = cnt m ∧ val m < 131072 := by
  have hv := val_lt m
  have hv' : val m < 131072 := Nat.lt_of_lt_of_le hv (Nat.pow_le_pow_right (by omega) h)
  refine ⟨?_, hv'⟩
  rw [(ones (val m) hv').1, cnt_pcf m.length m rfl]
  have := pcf_more m.length (17 - m.length) (val m) hv
  rw [show m.length + (17 - m.length) = 17 by omega] at this
  exact this
end Go.Proofs.Qxb6608623a.Qm
