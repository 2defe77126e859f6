/- THE WALK of FnAddScriptTwice. -/
import Derived.Test.Qxb6608516aAdZ
import Derived.Test.Qxb6608516aAdO
import Derived.Test.Qxb6608516aAdQ
import Derived.Deep.DeepCutAuto
import Derived.Deep.CutBlock
import Derived.BigQuiet
namespace Go.Proofs.Qxb6608516a.adT
open Go.RowKit
open Go.Proofs.Qxb6608516a.Ad
open Go.Proofs.Qxb6608516a.adC (Tch)
open Go.Proofs.Qxb6608516a.adR
open Go.Proofs.Qxb6608516a.adZ
open Go.Proofs.Qxb6608516a.adS
open Go.Proofs.Qxb6608516a.adO (Steps)
open Go.Proofs.Qxb6608516a.adM (Ok)
set_option linter.unusedVariables false
attribute [local go_sem ↓] Go.wp_at_zero Go.wp_at_succ

theorem zz25 (n : Int) (a : Option Addr) (len cap : Nat) (h : len ≤ 4096) (w : World) :
    Calls Try.prog 25 #[.int .i64 n, .slice a len cap] w fun e w' => e = .returned (.bool true) ∧ w = w' := by
  go_enter Try.func25, Try.ntmps25
  go_wp2
  go_ret
  exact ⟨rfl, rfl⟩

/-- a step that the law takes -/
def Good (n : Nat) (s : Stp) : Prop := 0 ≤ s.1 ∧ s.1 < (n : Int) ∧ -1 ≤ s.2.1
/-- the cells of step k -/
def CellAt (w : World) (b o k : Nat) (s : Stp) : Prop :=
  w.cell? ⟨b, o + k * 3, none⟩ = some (.int .i64 s.1) ∧ w.cell? ⟨b, o + k * 3 + 1, none⟩ = some (.int .i64 s.2.1) ∧ w.cell? ⟨b, o + k * 3 + 2, none⟩ = some (.int .i64 s.2.2)
theorem CellAt.below {w w' : World} {B b o k : Nat} {s : Stp} (h : CellAt w b o k s) (hb : Below B w w') (hl : b < B) : CellAt w' b o k s :=
  ⟨(hb.cell (by exact hl)).trans h.1, (hb.cell (by exact hl)).trans h.2.1, (hb.cell (by exact hl)).trans h.2.2⟩

set_option maxRecDepth 100000 in
set_option maxHeartbeats 20000000 in
theorem twice (n : Nat) (hn : n ≤ 65536) (b o len cap : Nat) (S : List Stp) (hlen : S.length = len) (hl : len ≤ 4096) (w : World) (hb : b < w.heap.size)
    (hcell : ∀ k s, S[k]? = some s → CellAt w b o k s ∧ Ok s.1 ∧ Ok s.2.1 ∧ Ok s.2.2) :
    Calls Try.prog 6 #[.int .i64 n, .slice (some ⟨b, o, none⟩) len cap] w fun e w' => e = .returned (.bool true) ∧ Below w.heap.size w w' := by
  have HC : Hid (∀ k s, S[k]? = some s → CellAt w b o k s ∧ Ok s.1 ∧ Ok s.2.1 ∧ Ok s.2.2) := hcell
  have HL : Hid (S.length = len) := hlen
  clear hcell hlen
  have get : ∀ k, k < len → ∃ s, S[k]? = some s := fun k hk => ⟨_, List.getElem?_eq_getElem (by rw [HL.out]; exact hk)⟩
  have GET : Hid (∀ k, k < len → ∃ s, S[k]? = some s) := get
  clear get
  have d1 : decide (4096 < (len : Int)) = false := decide_eq_false (by omega)
  have d2 : decide ((n : Int) < 0) = false := decide_eq_false (by omega)
  have d3 : decide (65536 < (n : Int)) = false := decide_eq_false (by omega)
  go_enter Try.func6, Try.ntmps6
  go_wp2_with (go_at_call 25; refine (zz25 _ _ _ _ hl _).mono ?_; rintro e w' ⟨rfl, rfl⟩)
  go_loop [5] (fun i => ∃ k : Nat, k ≤ len ∧ i = .int .i64 k ∧ ∀ j s, j < k → S[j]? = some s → Good n s) (fun i => len - (intOf i).toNat)
  case atStart => exact ⟨0, Nat.zero_le _, rfl, fun j s hj => absurd hj (by omega)⟩
  case round =>
    obtain ⟨k, hk, rfl, hall⟩ := hrel
    have HA : Hid (∀ j s, j < k → S[j]? = some s → Good n s) := hall
    clear hall
    by_cases hlt : k < len
    · as_aux_lemma =>
        obtain ⟨s, hs⟩ := GET.out k hlt
        obtain ⟨⟨g0, g1, g2⟩, _⟩ := HC.out k s hs
        have HS : Hid (S[k]? = some s) := hs
        clear hs
        by_cases hg : Good n s
        · obtain ⟨q1, q2, q3⟩ := hg
          go_wp2
          go_round
          case rel => exact ⟨k + 1, by omega, by go_num, fun j s' hj hs' => by
            by_cases h : j < k
            · exact HA.out j s' h hs'
            · obtain rfl : j = k := by omega
              rw [HS.out] at hs'
              cases hs'
              exact ⟨q1, q2, q3⟩⟩
          case measure => simp [intOf]; omega
        · have hbad : s.1 < 0 ∨ (0 ≤ s.1 ∧ (n : Int) ≤ s.1) ∨ (0 ≤ s.1 ∧ s.1 < (n : Int) ∧ s.2.1 < -1) := by
            unfold Good at hg
            omega
          clear hg
          rcases hbad with q | ⟨q, q'⟩ | ⟨q, q', q''⟩
          all_goals
            go_wp2
            go_ret
            exact ⟨rfl, Below.refl _ _⟩
    · as_aux_lemma =>
        obtain rfl : k = len := by omega
        go_wp2_with fail
        refine (new13 n hn _).mono ?_
        rintro e w1 ⟨R1, rfl, hS1, hb1⟩
        go_wp2_with fail
        refine (new13 n hn _).mono ?_
        rintro e w2 ⟨R2, rfl, hS2, hb2⟩
        have hbB : Below w.heap.size w w2 := hb1.trans (hb2.mono hb1.size)
        have hTwo : Two w2 w.heap.size n R1 R2 (S.take 0) (S.take 0) :=
          ⟨_, _, hS1.below hb2, (St.lower hS2 hb1.size), fun b h1 h2 => by have := h1.2; have := h2.1; omega⟩
        clear hS1 hS2 hb1 hb2
        go_wp2_with fail
        go_loopw [8] (fun i wr => ∃ j : Nat, j ≤ k ∧ i = .int .i64 j ∧ Two wr w.heap.size n R1 R2 (S.take j) (S.take j) ∧ Below w.heap.size w wr) (fun i _ => k - (intOf i).toNat)
        case atStart => exact ⟨0, Nat.zero_le _, rfl, hTwo, hbB⟩
        case round =>
          clear hTwo hbB
          obtain ⟨j, hj, rfl, ⟨F1, F2, h1, h2, hd⟩, hbl⟩ := hrel
          by_cases hlt2 : j < k
          · as_aux_lemma =>
              obtain ⟨s, hs⟩ := GET.out j hlt2
              obtain ⟨hcw, o1, o2, o3⟩ := HC.out j s hs
              obtain ⟨g1, g2, g3⟩ := HA.out j s hlt2 hs
              have hcr := hcw.below hbl hb
              obtain ⟨c0, c1, c2⟩ := hcr
              have HS : Hid (S[j]? = some s) := hs
              have HCW : Hid (CellAt w b o j s) := hcw
              have hj0 : (0 : Int) ≤ (j : Int) := Int.natCast_nonneg _
              have hj1 : (j : Int) < (k : Int) := by omega
              have T0 : Two wr.drew w.heap.size n R1 R2 (S.take j) (S.take j) := Two.below ⟨F1, F2, h1, h2, hd⟩ (Below.refl _ _).drew
              clear hs hcw hd h1 h2
              obtain ⟨G1, G2, h1, h2, hd⟩ := T0
              have HD : Hid (∀ b, G1 b → ¬ G2 b) := hd
              clear hd
              go_wp2_with fail
              go_region_held3 (fun w' => w'.cell? ⟨b, o + j * 3, none⟩ = some (.int .i64 s.1) ∧ w'.cell? ⟨b, o + j * 3 + 1, none⟩ = some (.int .i64 s.2.1) ∧ w'.cell? ⟨b, o + j * 3 + 2, none⟩ = some (.int .i64 s.2.2))
                (go_keep)
                ((go_at_call 14; refine (add14 h1 s.1 s.2.1 s.2.2 g1 g2 hn (by rw [List.length_take]; omega) o2 o3).mono ?_; rintro e w3 ⟨rfl, h1', ht1⟩; have hb3 := hbl.drew.trans (tch_below ht1 (St.bN h1) (fun b hf => (St.fB h1 b hf).1)); obtain ⟨e0, e1, e2⟩ := HCW.out.below hb3 hb))
              have T1 : Two w3.drew w.heap.size n R1 R2 (S.take (j + 1)) (S.take j) := Two.below (by rw [take_snoc' HS.out]; exact Two.first h1 h2 HD.out h1' ht1) (Below.refl _ _).drew
              clear HD h1 h2 h1' ht1 c0 c1 c2
              obtain ⟨G3, G4, h1, h2, hd⟩ := T1
              have HD : Hid (∀ b, G3 b → ¬ G4 b) := hd
              clear hd
              go_wp2_with fail
              go_region_held3 (fun w' => w'.cell? ⟨b, o + j * 3, none⟩ = some (.int .i64 s.1) ∧ w'.cell? ⟨b, o + j * 3 + 1, none⟩ = some (.int .i64 s.2.1) ∧ w'.cell? ⟨b, o + j * 3 + 2, none⟩ = some (.int .i64 s.2.2))
                (go_keep)
                ((go_at_call 14; refine (add14 h2 s.1 s.2.1 s.2.2 g1 g2 hn (by rw [List.length_take]; omega) o2 o3).mono ?_; rintro e w4 ⟨rfl, h2', ht2⟩; have hb4 := hb3.drew.trans (tch_below ht2 (St.bN h2) (fun b hf => (St.fB h2 b hf).1)); obtain ⟨f0, f1, f2⟩ := HCW.out.below hb4 hb))
              have T2 : Two w4 w.heap.size n R1 R2 (S.take (j + 1)) (S.take (j + 1)) := by
                have := Two.second h1 h2 HD.out h2' ht2
                rw [← take_snoc' HS.out] at this
                exact this
              clear HD h1 h2 h2' ht2 e0 e1 e2 f0 f1 f2
              go_wp2
              go_roundw
              case rel => exact ⟨j + 1, by omega, by go_num, T2, hb4⟩
              case measure => simp [intOf]; omega
          · as_aux_lemma =>
              obtain rfl : j = k := by omega
              have hSS : S.take j = S := List.take_of_length_le (by rw [HL.out]; exact Nat.le_refl _)
              have T0 : Two wr w.heap.size n R1 R2 S (S ++ S.take 0) := by
                rw [hSS] at h1 h2
                rw [List.take_zero, List.append_nil]
                exact ⟨F1, F2, h1, h2, hd⟩
              have HSS : Hid (S.take j = S) := hSS
              clear h1 h2 hd hSS
              go_wp2_with fail
              go_loopw [9] (fun i wq => ∃ m : Nat, m ≤ j ∧ i = .int .i64 m ∧ Two wq w.heap.size n R1 R2 S (S ++ S.take m) ∧ Below w.heap.size w wq) (fun i _ => j - (intOf i).toNat)
              case atStart => exact ⟨0, Nat.zero_le _, rfl, T0, hbl⟩
              case round =>
                clear T0 hbl
                obtain ⟨wq, rfl⟩ : ∃ x : World, x = wr := ⟨_, rfl⟩
                obtain ⟨m, hm, rfl, ⟨F1, F2, h1, h2, hd⟩, hbl⟩ := hrel
                by_cases hlt3 : m < j
                · as_aux_lemma =>
                    obtain ⟨s, hs⟩ := GET.out m hlt3
                    obtain ⟨hcw, o1, o2, o3⟩ := HC.out m s hs
                    obtain ⟨g1, g2, g3⟩ := HA.out m s hlt3 hs
                    obtain ⟨c0, c1, c2⟩ := hcw.below hbl hb
                    have HS : Hid (S[m]? = some s) := hs
                    have HCW : Hid (CellAt w b o m s) := hcw
                    have hj0 : (0 : Int) ≤ (m : Int) := Int.natCast_nonneg _
                    have hj1 : (m : Int) < (j : Int) := by omega
                    have T0 : Two wq.drew w.heap.size n R1 R2 S (S ++ S.take m) := Two.below ⟨F1, F2, h1, h2, hd⟩ (Below.refl _ _).drew
                    clear hs hcw hd h1 h2
                    obtain ⟨G1, G2, h1, h2, hd⟩ := T0
                    have HD : Hid (∀ b, G1 b → ¬ G2 b) := hd
                    clear hd
                    have hlen2 : (S ++ S.take m).length ≤ 8192 := by rw [List.length_append, List.length_take, HL.out]; omega
                    go_wp2_with fail
                    go_region_held3 (fun w' => w'.cell? ⟨b, o + m * 3, none⟩ = some (.int .i64 s.1) ∧ w'.cell? ⟨b, o + m * 3 + 1, none⟩ = some (.int .i64 s.2.1) ∧ w'.cell? ⟨b, o + m * 3 + 2, none⟩ = some (.int .i64 s.2.2))
                      (go_keep)
                      ((go_at_call 14; refine (add14 h2 s.1 s.2.1 s.2.2 g1 g2 hn hlen2 o2 o3).mono ?_; rintro e w4 ⟨rfl, h2', ht2⟩; have hb4 := hbl.drew.trans (tch_below ht2 (St.bN h2) (fun b hf => (St.fB h2 b hf).1)); obtain ⟨f0, f1, f2⟩ := HCW.out.below hb4 hb))
                    have T2 : Two w4 w.heap.size n R1 R2 S (S ++ S.take (m + 1)) := by
                      have := Two.second h1 h2 HD.out h2' ht2
                      rw [List.append_assoc, show [(s.1, s.2.1, s.2.2)] = [s] from rfl, ← take_snoc' HS.out] at this
                      exact this
                    clear HD h1 h2 h2' ht2 f0 f1 f2
                    go_wp2
                    go_roundw
                    case rel => exact ⟨m + 1, by omega, by go_num, T2, hb4⟩
                    case measure => simp [intOf]; omega
                · as_aux_lemma =>
                    obtain rfl : m = j := by omega
                    rw [HSS.out] at h2
                    have HCL : Hid (∀ k s, S[k]? = some s → CellAt wq b o k s) := fun k s hs => (HC.out k s hs).1.below hbl hb
                    have HT : Hid (Two wq w.heap.size n R1 R2 S (S ++ S)) := ⟨F1, F2, h1, h2, hd⟩
                    have HB : Hid (Below w.heap.size w wq) := hbl
                    have hlS : S.length ≤ 8192 := by rw [HL.out]; omega
                    have hlSS : (S ++ S).length ≤ 8192 := by rw [List.length_append, HL.out]; omega
                    clear hd hbl HC HA
                    have HF1 : Hid (St wq w.heap.size F1 R1 n S) := h1
                    have HF2 : Hid (St wq w.heap.size F2 R2 n (S ++ S)) := h2
                    clear h1 h2
                    go_wp2_with fail
                    refine (holders15 HF1.out).mono ?_
                    rintro e w' ⟨ao1, cp1, rfl, hr1, rfl⟩
                    go_wp2_with fail
                    refine (holders15 HF2.out).mono ?_
                    rintro e w' ⟨ao2, cp2, rfl, hr2, rfl⟩
                    rw [holders_twice] at hr2 ⊢
                    go_upto_block 6 with fail
                    go_cut [10, 11, 12] from 34 (fun p q i wx => Below wq.heap.size wq wx)
                    case first => as_aux_lemma =>
                      have hb0 : Below wq.heap.size wq wq := Below.refl _ _
                      have hhl := holders_le S
                      by_cases hL : holdersOf S = []
                      · have hz : (holdersOf S).length = 0 := by rw [hL]; rfl
                        rw [hz]
                        go_wp2_with fail
                        refine wp_loop_rounds 1 ?_
                        rw [rounds_succ]
                        go_wp2
                        go_meet
                        case rel => exact hb0
                      · obtain ⟨ga, rfl, fa, ca⟩ := hr1.resolve_left hL
                        obtain ⟨gb, rfl, fb, cb⟩ := hr2.resolve_left hL
                        have la := (St.fB HF1.out ga fa).2
                        have lb := (St.fB HF2.out gb fb).2
                        have HCA : Hid (∀ i, i < (holdersOf S).length → wq.cell? ⟨ga, i, none⟩ = some (.int .i64 ((holdersOf S).getD i 0))) := ca
                        have HCB : Hid (∀ i, i < (holdersOf S).length → wq.cell? ⟨gb, i, none⟩ = some (.int .i64 ((holdersOf S).getD i 0))) := cb
                        clear ca cb hr1 hr2 hL fa fb
                        obtain ⟨N, hN⟩ : ∃ N, N = (holdersOf S).length := ⟨_, rfl⟩
                        rw [← hN] at hhl HCA HCB ⊢
                        clear hN
                        go_wp2_with fail
                        go_loopw [12] (fun i wy => ∃ k : Nat, k ≤ N ∧ i = .int .i64 k ∧ Below wq.heap.size wq wy) (fun i _ => N - (intOf i).toNat)
                        case atStart => exact ⟨0, Nat.zero_le _, rfl, hb0⟩
                        case round =>
                          obtain ⟨wy, rfl⟩ : ∃ x : World, x = wr := ⟨_, rfl⟩
                          obtain ⟨k, hk, rfl, hby⟩ := hrel
                          by_cases hlt4 : k < N
                          · obtain ⟨x, hx⟩ : ∃ x, x = (holdersOf S).getD k 0 := ⟨_, rfl⟩
                            have c1 : wy.cell? ⟨ga, k, none⟩ = some (.int .i64 x) := by rw [hx]; exact (hby.cell (by exact la)).trans (HCA.out k hlt4)
                            have c2 : wy.cell? ⟨gb, k, none⟩ = some (.int .i64 x) := by rw [hx]; exact (hby.cell (by exact lb)).trans (HCB.out k hlt4)
                            clear hx
                            have hk0 : (0 : Int) ≤ (k : Int) := Int.natCast_nonneg _
                            have hk1 : (k : Int) < (N : Int) := by omega
                            go_wp2_with fail
                            go_region
                            all_goals
                              go_wp2
                              go_roundw
                              case rel => exact ⟨k + 1, by omega, by go_num, hby.drew⟩
                              case measure => simp [intOf]; omega
                          · go_wp2
                            go_meet
                            case rel => exact hby
                    case rest => as_aux_lemma =>
                      have hbx : Below wq.heap.size wq wc := hcut
                      clear hr1 hr2 hcut
                      go_wp2_with fail
                      go_loopw [13] (fun i wy => ∃ c : Nat, c ≤ n ∧ i = .int .i64 c ∧ Below wq.heap.size wq wy) (fun i _ => n - (intOf i).toNat)
                      case atStart => exact ⟨0, Nat.zero_le _, rfl, hbx⟩
                      case round =>
                        clear hbx
                        obtain ⟨wy, rfl⟩ : ∃ x : World, x = wr := ⟨_, rfl⟩
                        obtain ⟨c, hc, rfl, hby⟩ := hrel
                        by_cases hlt5 : c < n
                        · as_aux_lemma =>
                            obtain ⟨M, hM⟩ : ∃ M, M = (heldOf S c).length := ⟨_, rfl⟩
                            have hMl : M ≤ 8192 := by rw [hM]; exact Nat.le_trans (held_le S c) hlS
                            have hM2 : (((heldOf (S ++ S) c).length : Nat) : Int) = 2 * (M : Int) := by rw [held_twice, List.length_append, hM]; omega
                            have HM : Hid (M = (heldOf S c).length) := hM
                            have HM2 : Hid ((((heldOf (S ++ S) c).length : Nat) : Int) = 2 * (M : Int)) := hM2
                            clear hM hM2
                            go_wp2_with fail
                            refine (heldLen16 (HF1.out.below hby) c hlt5 hn).mono ?_
                            rintro e w' ⟨rfl, rfl⟩
                            rw [← HM.out]
                            go_wp2_with fail
                            refine (heldLen16 (HF2.out.below hby) c hlt5 hn).mono ?_
                            rintro e w' ⟨rfl, rfl⟩
                            rw [HM2.out]
                            go_wp2_with fail
                            go_loopw [15] (fun q wz => ∃ k : Nat, k ≤ M ∧ q = .int .i64 k ∧ Below wq.heap.size wq wz) (fun q _ => M - (intOf q).toNat)
                            case atStart => exact ⟨0, Nat.zero_le _, rfl, hby⟩
                            case round =>
                              clear hby
                              obtain ⟨wz, rfl⟩ : ∃ x : World, x = wr := ⟨_, rfl⟩
                              obtain ⟨k, hk, rfl, hbz⟩ := hrel
                              by_cases hlt6 : k < M
                              · obtain ⟨p, hp⟩ : ∃ p, (heldOf S c)[k]? = some p := ⟨_, List.getElem?_eq_getElem (by rw [← HM.out]; exact hlt6)⟩
                                have hp2 : (heldOf (S ++ S) c)[k]? = some p := by rw [held_twice, List.getElem?_append_left (by rw [← HM.out]; exact hlt6)]; exact hp
                                have hp3 : (heldOf (S ++ S) c)[M + k]? = some p := by
                                  rw [held_twice, List.getElem?_append_right (by rw [← HM.out]; omega), ← HM.out, Nat.add_sub_cancel_left]; exact hp
                                have HP : Hid ((heldOf S c)[k]? = some p ∧ (heldOf (S ++ S) c)[k]? = some p ∧ (heldOf (S ++ S) c)[M + k]? = some p) := ⟨hp, hp2, hp3⟩
                                clear hp hp2 hp3
                                go_wp2_with fail
                                refine (heldAt17 (HF1.out.below hbz) c k p hlt5 hn HP.out.1 hlS).mono ?_
                                rintro e wa ⟨rfl, hba⟩
                                have hbz1 := hbz.trans (hba.mono hbz.size)
                                go_wp2_with fail
                                refine (heldAt17 (HF2.out.below hbz1) c k p hlt5 hn HP.out.2.1 hlSS).mono ?_
                                rintro e wb ⟨rfl, hbb⟩
                                have hbz2 := hbz1.trans (hbb.mono hbz1.size)
                                go_wp2_with fail
                                rw [show (M : Int) + (k : Int) = ((M + k : Nat) : Int) by omega]
                                refine (heldAt17 (HF2.out.below hbz2) c (M + k) p hlt5 hn HP.out.2.2 hlSS).mono ?_
                                rintro e wd ⟨rfl, hbd⟩
                                have hbz3 := hbz2.trans (hbd.mono hbz2.size)
                                go_wp2
                                go_roundw
                                case rel => exact ⟨k + 1, by omega, by go_num, hbz3⟩
                                case measure => simp [intOf]; omega
                              · go_wp2
                                go_roundw
                                case rel => exact ⟨c + 1, by omega, by go_num, hbz⟩
                                case measure => simp [intOf]; omega
                        · as_aux_lemma =>
                            obtain ⟨p, hp⟩ : ∃ p, p = (repsOf S).length := ⟨_, rfl⟩
                            have hpl : p ≤ 8192 := by rw [hp]; exact Nat.le_trans (reps_le S) hlS
                            have hp2 : (((repsOf (S ++ S)).length : Nat) : Int) = (p : Int) + (m : Int) := by rw [reps_twice, List.length_append, HL.out, hp]; omega
                            have HP : Hid (p = (repsOf S).length) := hp
                            have HP2 : Hid ((((repsOf (S ++ S)).length : Nat) : Int) = (p : Int) + (m : Int)) := hp2
                            clear hp hp2
                            go_wp2_with fail
                            refine (repLen18 (HF1.out.below hby)).mono ?_
                            rintro e w' ⟨rfl, rfl⟩
                            rw [← HP.out]
                            go_wp2_with fail
                            refine (repLen18 (HF2.out.below hby)).mono ?_
                            rintro e w' ⟨rfl, rfl⟩
                            rw [HP2.out]
                            go_wp2_with fail
                            go_loopw [23] (fun i wz => ∃ k : Nat, k ≤ p ∧ i = .int .i64 k ∧ Below wq.heap.size wq wz) (fun i _ => p - (intOf i).toNat)
                            case atStart => exact ⟨0, Nat.zero_le _, rfl, hby⟩
                            case round =>
                              clear hby
                              obtain ⟨wz, rfl⟩ : ∃ x : World, x = wr := ⟨_, rfl⟩
                              obtain ⟨k, hk, rfl, hbz⟩ := hrel
                              by_cases hlt7 : k < p
                              · as_aux_lemma =>
                                  obtain ⟨t, ht⟩ : ∃ t, (repsOf S)[k]? = some t := ⟨_, List.getElem?_eq_getElem (by rw [← HP.out]; exact hlt7)⟩
                                  have ht2 : (repsOf (S ++ S))[k]? = some t := by rw [reps_twice, List.getElem?_append_left (by rw [← HP.out]; exact hlt7)]; exact ht
                                  have HTT : Hid ((repsOf S)[k]? = some t ∧ (repsOf (S ++ S))[k]? = some t) := ⟨ht, ht2⟩
                                  clear ht ht2
                                  go_wp2_with fail
                                  refine (repAt19 (HF1.out.below hbz) k t HTT.out.1 hlS).mono ?_
                                  rintro e wa ⟨rfl, hba⟩
                                  have hbz1 := hbz.trans (hba.mono hbz.size)
                                  go_wp2_with fail
                                  refine (repAt19 (HF2.out.below hbz1) k t HTT.out.2 hlSS).mono ?_
                                  rintro e wb ⟨rfl, hbb⟩
                                  have hbz2 := hbz1.trans (hbb.mono hbz1.size)
                                  go_wp2
                                  go_roundw
                                  case rel => exact ⟨k + 1, by omega, by go_num, hbz2⟩
                                  case measure => simp [intOf]; omega
                              · go_wp2_with fail
                                go_loopw [30] (fun i wz => ∃ k : Nat, k ≤ m ∧ i = .int .i64 k ∧ Below wq.heap.size wq wz) (fun i _ => m - (intOf i).toNat)
                                case atStart => exact ⟨0, Nat.zero_le _, rfl, hbz⟩
                                case round =>
                                  clear hbz
                                  obtain ⟨wv, rfl⟩ : ∃ x : World, x = wr := ⟨_, rfl⟩
                                  obtain ⟨u, hu, rfl, hbv⟩ := hrel
                                  by_cases hlt8 : u < m
                                  · as_aux_lemma =>
                                      obtain ⟨t, ht⟩ := GET.out u hlt8
                                      have ht2 : (repsOf (S ++ S))[p + u]? = some t := by
                                        rw [reps_twice, List.getElem?_append_right (by rw [← HP.out]; omega), ← HP.out, Nat.add_sub_cancel_left]; exact ht
                                      have HTT : Hid (S[u]? = some t ∧ (repsOf (S ++ S))[p + u]? = some t) := ⟨ht, ht2⟩
                                      clear ht ht2
                                      go_wp2_with fail
                                      rw [show (p : Int) + (u : Int) = ((p + u : Nat) : Int) by omega]
                                      refine (repAt19 (HF2.out.below hbv) (p + u) t HTT.out.2 hlSS).mono ?_
                                      rintro e wa ⟨rfl, hba⟩
                                      have hbv1 := hbv.trans (hba.mono hbv.size)
                                      obtain ⟨c0, c1, c2⟩ := (HCL.out u t HTT.out.1).below hbv1 (Nat.lt_of_lt_of_le hb HB.out.size)
                                      go_wp2
                                      go_roundw
                                      case rel => exact ⟨u + 1, by omega, by go_num, hbv1⟩
                                      case measure => simp [intOf]; omega
                                  · as_aux_lemma =>
                                      have hend : Below w.heap.size w wv := HB.out.trans (hbv.mono HB.out.size)
                                      have HE : Hid (Below w.heap.size w wv) := hend
                                      clear hend
                                      go_wp2_with fail
                                      refine (holdsLen22 (HF2.out.below hbv)).mono ?_
                                      rintro e w' ⟨rfl, rfl⟩
                                      rw [distinct_same]
                                      go_wp2_with fail
                                      refine (holdsLen22 (HF1.out.below hbv)).mono ?_
                                      rintro e w' ⟨rfl, rfl⟩
                                      go_wp2_with fail
                                      refine (targetsLen23 (HF2.out.below hbv)).mono ?_
                                      rintro e w' ⟨rfl, rfl⟩
                                      rw [targets_twice]
                                      go_wp2_with fail
                                      refine (targetsLen23 (HF1.out.below hbv)).mono ?_
                                      rintro e w' ⟨rfl, rfl⟩
                                      go_wp2_with fail
                                      refine (wild24 (HF2.out.below hbv)).mono ?_
                                      rintro e w' ⟨rfl, rfl⟩
                                      rw [wild_twice]
                                      go_wp2_with fail
                                      refine (wild24 (HF1.out.below hbv)).mono ?_
                                      rintro e w' ⟨rfl, rfl⟩
                                      go_wp2
                                      go_ret
                                      exact ⟨by simp, HE.out⟩
end Go.Proofs.Qxb6608516a.adT
