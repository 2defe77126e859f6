/- THE WALK of FnAddScriptExact. -/
import Derived.Test.Qxb6608516aAdZ
import Derived.Test.Qxb6608516aAdQ
import Derived.Deep.DeepCutAuto
import Derived.Deep.CutBlock
namespace Go.Proofs.Qxb6608516a.adX
open Go.RowKit
open Go.Proofs.Qxb6608516a.Ad
open Go.Proofs.Qxb6608516a.adR
open Go.Proofs.Qxb6608516a.adZ
open Go.Proofs.Qxb6608516a.adS
open Go.Proofs.Qxb6608516a.adM (Ok)
set_option linter.unusedVariables false
attribute [local go_sem ↓] Go.wp_at_zero Go.wp_at_succ

theorem zz12 (n : Int) (a : Option Addr) (len cap : Nat) (h : len ≤ 4096) (w : World) :
    Calls Try.prog 12 #[.int .i64 n, .slice a len cap] w fun e w' => e = .returned (.bool true) ∧ w = w' := by
  go_enter Try.func12, Try.ntmps12
  go_wp2
  go_ret
  exact ⟨rfl, rfl⟩

theorem heldLen16i {w : World} {B : Nat} {F : Nat → Prop} {R n : Nat} {S : List Stp} (h : St w B F R n S) (c : Int) (hc0 : 0 ≤ c) (hc : c < n) (hn : n ≤ 65536) :
    Calls Try.prog 16 #[.pointer (some ⟨R, 0, none⟩), .int .i64 c] w fun e w' => e = .returned (.int .i64 ((heldOf S c).length : Nat)) ∧ w = w' := by
  obtain ⟨c, rfl⟩ := Int.eq_ofNat_of_zero_le hc0
  exact heldLen16 h c (by omega) hn
theorem heldAt17i {w : World} {B : Nat} {F : Nat → Prop} {R n : Nat} {S : List Stp} (h : St w B F R n S) (c : Int) (i : Nat) (p : Int × Int) (hc0 : 0 ≤ c) (hc : c < n) (hn : n ≤ 65536) (hi : (heldOf S c)[i]? = some p) (hl : S.length ≤ 8192) :
    Calls Try.prog 17 #[.pointer (some ⟨R, 0, none⟩), .int .i64 c, .int .i64 i] w fun e w' => e = .returned (.tuple #[.int .i64 p.1, .int .i64 p.2]) ∧ Below w.heap.size w w' := by
  obtain ⟨c, rfl⟩ := Int.eq_ofNat_of_zero_le hc0
  exact heldAt17 h c i p (by omega) hn hi hl

/-- a step that the law takes -/
def Good (n : Nat) (s : Stp) : Prop := 0 ≤ s.1 ∧ s.1 < (n : Int) ∧ -1 ≤ s.2.1
/-- the cells of step k -/
def CellAt (w : World) (b o k : Nat) (s : Stp) : Prop :=
  w.cell? ⟨b, o + k * 3, none⟩ = some (.int .i64 s.1) ∧ w.cell? ⟨b, o + k * 3 + 1, none⟩ = some (.int .i64 s.2.1) ∧ w.cell? ⟨b, o + k * 3 + 2, none⟩ = some (.int .i64 s.2.2)
theorem CellAt.below {w w' : World} {B b o k : Nat} {s : Stp} (h : CellAt w b o k s) (hb : Below B w w') (hl : b < B) : CellAt w' b o k s :=
  ⟨(hb.cell (by exact hl)).trans h.1, (hb.cell (by exact hl)).trans h.2.1, (hb.cell (by exact hl)).trans h.2.2⟩

/-- not yet met -/
def isNew (P : List Stp) (s : Stp) : Bool := decide (¬ s ∈ P)
def isNewT (P : List Stp) (s : Stp) : Bool := decide (¬ s.2 ∈ targetsOf P)
theorem new_nil (s : Stp) : isNew [] s = true ∧ isNewT [] s = true := by simp [isNew, isNewT, targetsOf]
theorem new_snoc (P : List Stp) (t s : Stp) : isNew (P ++ [t]) s = (isNew P s && !decide (t = s)) := by
  unfold isNew
  rw [Bool.eq_iff_iff]
  simp
  intro _
  exact ⟨fun h q => h q.symm, fun h q => h q.symm⟩
theorem newT_snoc (P : List Stp) (t s : Stp) : isNewT (P ++ [t]) s = (isNewT P s && !decide (t.2 = s.2)) := by
  unfold isNewT
  have e : targetsOf (P ++ [t]) = targetsOf P ++ [t.2] := by simp [targetsOf]
  rw [e, Bool.eq_iff_iff]
  simp
  intro _
  exact ⟨fun h q => h q.symm, fun h q => h q.symm⟩
theorem val_bool {a b : Bool} (h : a = b) : Value.bool a = .bool b := by rw [h]
theorem val_int {a b : Int} (h : a = b) : Value.int .i64 a = .int .i64 b := by rw [h]
/-- what the inner loop's round makes of its three -/
theorem inner_step {S : List Stp} {j : Nat} {t s : Stp} (h : S[j]? = some t) :
    (heldOf (S.take (j + 1)) s.1).length = (heldOf (S.take j) s.1).length + (if t.1 = s.1 then 1 else 0) ∧
    isNew (S.take (j + 1)) s = (isNew (S.take j) s && !decide (t = s)) ∧ isNewT (S.take (j + 1)) s = (isNewT (S.take j) s && !decide (t.2 = s.2)) := by
  rw [take_snoc' h]
  refine ⟨?_, new_snoc _ _ _, newT_snoc _ _ _⟩
  rw [held_snoc]
  split <;> simp
theorem eq_stp (t s : Stp) : t = s ↔ t.1 = s.1 ∧ t.2.1 = s.2.1 ∧ t.2.2 = s.2.2 :=
  ⟨fun h => by subst h; exact ⟨rfl, rfl, rfl⟩, fun ⟨h1, h2, h3⟩ => Prod.ext h1 (Prod.ext h2 h3)⟩
theorem eq_tgt (t s : Stp) : t.2 = s.2 ↔ t.2.1 = s.2.1 ∧ t.2.2 = s.2.2 :=
  ⟨fun h => by rw [h]; exact ⟨rfl, rfl⟩, fun ⟨h2, h3⟩ => Prod.ext h2 h3⟩

set_option maxRecDepth 100000 in
set_option maxHeartbeats 20000000 in
theorem exact5 (n : Nat) (hn : n ≤ 65536) (b o len cap : Nat) (S : List Stp) (hlen : S.length = len) (hl : len ≤ 4096) (hpos : 0 < len) (w : World) (hb : b < w.heap.size)
    (hcell : ∀ k s, S[k]? = some s → CellAt w b o k s ∧ Ok s.1 ∧ Ok s.2.1 ∧ Ok s.2.2) :
    Calls Try.prog 5 #[.int .i64 n, .slice (some ⟨b, o, none⟩) len cap] w fun e w' => e = .returned (.bool true) ∧ Below w.heap.size w w' := by
  have HC : Hid (∀ k s, S[k]? = some s → CellAt w b o k s ∧ Ok s.1 ∧ Ok s.2.1 ∧ Ok s.2.2) := hcell
  have HL : Hid (S.length = len) := hlen
  clear hcell hlen
  have get : ∀ k, k < len → ∃ s, S[k]? = some s := fun k hk => ⟨_, List.getElem?_eq_getElem (by rw [HL.out]; exact hk)⟩
  have GET : Hid (∀ k, k < len → ∃ s, S[k]? = some s) := get
  clear get
  have d1 : decide (4096 < (len : Int)) = false := decide_eq_false (by omega)
  have d2 : decide ((n : Int) < 0) = false := decide_eq_false (by omega)
  have d3 : decide (65536 < (n : Int)) = false := decide_eq_false (by omega)
  go_enter Try.func5, Try.ntmps5
  go_wp2_with (go_at_call 12; refine (zz12 _ _ _ _ hl _).mono ?_; rintro e w' ⟨rfl, rfl⟩)
  go_loop [5] (fun i => ∃ k : Nat, k ≤ len ∧ i = .int .i64 k ∧ ∀ j s, j < k → S[j]? = some s → Good n s) (fun i => len - (intOf i).toNat)
  case atStart => exact ⟨0, Nat.zero_le _, rfl, fun j s hj => absurd hj (by omega)⟩
  case round =>
    obtain ⟨k, hk, rfl, hall⟩ := hrel
    have HA : Hid (∀ j s, j < k → S[j]? = some s → Good n s) := hall
    clear hall
    by_cases hlt : k < len
    · as_aux_lemma =>
        obtain ⟨s, hs⟩ := GET.out k hlt
        obtain ⟨⟨g0, g1, g2⟩, _⟩ := HC.out k s hs
        have HS : Hid (S[k]? = some s) := hs
        clear hs
        by_cases hg : Good n s
        · obtain ⟨q1, q2, q3⟩ := hg
          go_wp2
          go_round
          case rel => exact ⟨k + 1, by omega, by go_num, fun j s' hj hs' => by
            by_cases h : j < k
            · exact HA.out j s' h hs'
            · obtain rfl : j = k := by omega
              rw [HS.out] at hs'
              cases hs'
              exact ⟨q1, q2, q3⟩⟩
          case measure => simp [intOf]; omega
        · have hbad : s.1 < 0 ∨ (0 ≤ s.1 ∧ (n : Int) ≤ s.1) ∨ (0 ≤ s.1 ∧ s.1 < (n : Int) ∧ s.2.1 < -1) := by
            unfold Good at hg
            omega
          clear hg
          rcases hbad with q | ⟨q, q'⟩ | ⟨q, q', q''⟩
          all_goals
            go_wp2
            go_ret
            exact ⟨rfl, Below.refl _ _⟩
    · as_aux_lemma =>
        obtain rfl : k = len := by omega
        go_wp2_with fail
        refine (new13 n hn _).mono ?_
        rintro e w1 ⟨R, rfl, hS1, hb1⟩
        have hT0 : ∃ F, St w1 w.heap.size F R n (S.take 0) := ⟨_, hS1⟩
        clear hS1
        go_wp2_with fail
        go_loopw [7] (fun i wr => ∃ j : Nat, j ≤ k ∧ i = .int .i64 j ∧ (∃ F, St wr w.heap.size F R n (S.take j)) ∧ Below w.heap.size w wr) (fun i _ => k - (intOf i).toNat)
        case atStart => exact ⟨0, Nat.zero_le _, rfl, hT0, hb1⟩
        case round =>
          clear hT0 hb1
          obtain ⟨j, hj, rfl, ⟨F1, h1⟩, hbl⟩ := hrel
          by_cases hlt2 : j < k
          · as_aux_lemma =>
              obtain ⟨s, hs⟩ := GET.out j hlt2
              obtain ⟨hcw, o1, o2, o3⟩ := HC.out j s hs
              obtain ⟨g1, g2, g3⟩ := HA.out j s hlt2 hs
              obtain ⟨c0, c1, c2⟩ := hcw.below hbl hb
              have HS : Hid (S[j]? = some s) := hs
              have HCW : Hid (CellAt w b o j s) := hcw
              have hj0 : (0 : Int) ≤ (j : Int) := Int.natCast_nonneg _
              have hj1 : (j : Int) < (k : Int) := by omega
              have h1 := h1.below (Below.refl wr.heap.size wr).drew
              clear hs hcw
              go_wp2_with fail
              go_region_held3 (fun w' => w'.cell? ⟨b, o + j * 3, none⟩ = some (.int .i64 s.1) ∧ w'.cell? ⟨b, o + j * 3 + 1, none⟩ = some (.int .i64 s.2.1) ∧ w'.cell? ⟨b, o + j * 3 + 2, none⟩ = some (.int .i64 s.2.2))
                (go_keep)
                ((go_at_call 14; refine (add14 h1 s.1 s.2.1 s.2.2 g1 g2 hn (by rw [List.length_take]; omega) o2 o3).mono ?_; rintro e w3 ⟨rfl, h1', ht1⟩; have hb3 := hbl.drew.trans (tch_below ht1 (St.bN h1) (fun b hf => (St.fB h1 b hf).1)); obtain ⟨e0, e1, e2⟩ := HCW.out.below hb3 hb))
              have T1 : ∃ F, St w3 w.heap.size F R n (S.take (j + 1)) := by
                rw [take_snoc' HS.out]
                exact ⟨_, h1'⟩
              clear h1 h1' ht1 e0 e1 e2
              go_wp2
              go_roundw
              case rel => exact ⟨j + 1, by omega, by go_num, T1, hb3⟩
              case measure => simp [intOf]; omega
          · as_aux_lemma =>
              obtain rfl : j = k := by omega
              have hSS : S.take j = S := List.take_of_length_le (by rw [HL.out]; exact Nat.le_refl _)
              have HSS : Hid (S.take j = S) := hSS
              rw [hSS] at h1
              clear hSS
              obtain ⟨wq, rfl⟩ : ∃ x : World, x = wr := ⟨_, rfl⟩
              have HCL : Hid (∀ k s, S[k]? = some s → CellAt wq b o k s) := fun k s hs => (HC.out k s hs).1.below hbl hb
              have HOK : Hid (∀ (k : Nat) (s : Stp), S[k]? = some s → Ok s.1 ∧ Ok s.2.1 ∧ Ok s.2.2) := fun k s hs => (HC.out k s hs).2
              have HF : Hid (St wq w.heap.size F1 R n S) := h1
              have HB : Hid (Below w.heap.size w wq) := hbl
              have hlS : S.length ≤ 8192 := by rw [HL.out]; omega
              have hbq : b < wq.heap.size := Nat.lt_of_lt_of_le hb hbl.size
              clear HC hbl h1
              go_wp2_with fail
              refine (holders15 HF.out).mono ?_
              rintro e w' ⟨ao, cp, rfl, hr1, rfl⟩
              have hne : holdersOf S ≠ [] := fun e0 => by
                obtain ⟨s, hs⟩ := GET.out 0 hpos
                have := (holder_next (i := 0) hs (by simp [heldOf])).1
                rw [e0] at this
                simp at this
              obtain ⟨g, rfl, fg, cg⟩ := hr1.resolve_left hne
              have lg := (St.fB HF.out g fg).2
              have hNl := Nat.le_trans (holders_le S) hlS
              obtain ⟨N, hN⟩ : ∃ N, N = (holdersOf S).length := ⟨_, rfl⟩
              rw [← hN] at cg hNl ⊢
              have HN : Hid (N = (holdersOf S).length) := hN
              have HG : Hid (∀ i, i < N → wq.cell? ⟨g, i, none⟩ = some (.int .i64 ((holdersOf S).getD i 0))) := cg
              clear hr1 hne cg fg hN
              go_wp2_with fail
              go_loopw [9, 10, 11, 12, 13, 14] (fun nh nr nd nt wl iv wy => ∃ i : Nat, i ≤ j ∧ iv = .int .i64 i ∧ nh = .int .i64 ((holdersOf (S.take i)).length : Nat) ∧ nr = .int .i64 ((repsOf (S.take i)).length : Nat) ∧ nd = .int .i64 ((Ad.distinct (S.take i)).length : Nat) ∧ nt = .int .i64 ((Ad.distinct (targetsOf (S.take i))).length : Nat) ∧ wl = .bool (wildOf (S.take i)) ∧ Below wq.heap.size wq wy) (fun nh nr nd nt wl iv _ => j - (intOf iv).toNat)
              case atStart => exact ⟨0, Nat.zero_le _, rfl, rfl, rfl, rfl, rfl, rfl, Below.refl _ _⟩
              case round =>
                obtain ⟨wy, rfl⟩ : ∃ x : World, x = wr := ⟨_, rfl⟩
                obtain ⟨i, hi, rfl, rfl, rfl, rfl, rfl, rfl, hby⟩ := hrel
                by_cases hlt3 : i < j
                · as_aux_lemma =>
                    obtain ⟨s, hs⟩ := GET.out i hlt3
                    obtain ⟨c0, c1, c2⟩ := (HCL.out i s hs).below hby hbq
                    obtain ⟨g1, g2, g3⟩ := HA.out i s hlt3 hs
                    obtain ⟨o1, o2, o3⟩ := HOK.out i s hs
                    have HS : Hid (S[i]? = some s) := hs
                    clear hs
                    have l1 := Nat.le_trans (holders_le (S.take i)) (show (S.take i).length ≤ 8192 by rw [List.length_take]; omega)
                    have l2 := Nat.le_trans (reps_le (S.take i)) (show (S.take i).length ≤ 8192 by rw [List.length_take]; omega)
                    have l3 := Nat.le_trans (Ad.length_distinct_le (S.take i)) (show (S.take i).length ≤ 8192 by rw [List.length_take]; omega)
                    have l4 := Nat.le_trans (Ad.length_distinct_le (targetsOf (S.take i))) (show (targetsOf (S.take i)).length ≤ 8192 by unfold targetsOf; rw [List.length_map, List.length_take]; omega)
                    go_wp2_with fail
                    go_loop [18, 19, 20, 21] (fun kv ns nt jv => ∃ q : Nat, q ≤ i ∧ jv = .int .i64 q ∧ kv = .int .i64 ((heldOf (S.take q) s.1).length : Nat) ∧ ns = .bool (isNew (S.take q) s) ∧ nt = .bool (isNewT (S.take q) s)) (fun _ _ _ jv => i - (intOf jv).toNat)
                    case atStart => exact ⟨0, Nat.zero_le _, rfl, rfl, val_bool (new_nil s).1.symm, val_bool (new_nil s).2.symm⟩
                    case round =>
                      obtain ⟨q, hq, rfl, rfl, rfl, rfl⟩ := hrel
                      by_cases hlt4 : q < i
                      · as_aux_lemma =>
                          obtain ⟨t, ht⟩ := GET.out q (by omega)
                          obtain ⟨e0, e1, e2⟩ := (HCL.out q t ht).below hby hbq
                          have HST : Hid (S[q]? = some t) := ht
                          have lk := Nat.le_trans (held_le (S.take q) s.1) (show (S.take q).length ≤ 8192 by rw [List.length_take]; omega)
                          clear ht
                          have hst := inner_step (s := s) HST.out
                          by_cases h2 : t.2.1 = s.2.1 <;> by_cases h3 : t.2.2 = s.2.2 <;> by_cases h1 : t.1 = s.1
                          all_goals
                            have f1 : Hid ((heldOf (S.take (q + 1)) s.1).length = (heldOf (S.take q) s.1).length + (if t.1 = s.1 then 1 else 0)) := hst.1
                            have f2 : Hid (isNew (S.take (q + 1)) s = (isNew (S.take q) s && !decide (t.1 = s.1 ∧ t.2.1 = s.2.1 ∧ t.2.2 = s.2.2))) := by
                              show _ = _
                              rw [hst.2.1]
                              congr 2
                              exact decide_eq_decide.2 (eq_stp t s)
                            have f3 : Hid (isNewT (S.take (q + 1)) s = (isNewT (S.take q) s && !decide (t.2.1 = s.2.1 ∧ t.2.2 = s.2.2))) := by
                              show _ = _
                              rw [hst.2.2]
                              congr 2
                              exact decide_eq_decide.2 (eq_tgt t s)
                            have H1 : Hid (t.1 = s.1 ∨ True) := .inr trivial
                            first
                              | (have b2 : (t.2.1 == s.2.1) = true := beq_iff_eq.2 h2)
                              | (have b2 : (t.2.1 == s.2.1) = false := beq_eq_false_iff_ne.2 h2)
                            first
                              | (have b3 : (t.2.2 == s.2.2) = true := beq_iff_eq.2 h3)
                              | (have b3 : (t.2.2 == s.2.2) = false := beq_eq_false_iff_ne.2 h3)
                            first
                              | (have b1 : (t.1 == s.1) = true := beq_iff_eq.2 h1)
                              | (have b1 : (t.1 == s.1) = false := beq_eq_false_iff_ne.2 h1)
                            have r1 : Hid ((heldOf (S.take (q + 1)) s.1).length = (heldOf (S.take q) s.1).length + (if t.1 = s.1 then 1 else 0) ∧ isNew (S.take (q + 1)) s = (isNew (S.take q) s && !((t.1 == s.1) && (t.2.1 == s.2.1) && (t.2.2 == s.2.2))) ∧ isNewT (S.take (q + 1)) s = (isNewT (S.take q) s && !((t.2.1 == s.2.1) && (t.2.2 == s.2.2)))) := by
                              refine ⟨f1.out, ?_, ?_⟩
                              · rw [f2.out]; simp [h1, h2, h3]
                              · rw [f3.out]; simp [h2, h3]
                            clear f1 f2 f3 hst H1
                            have r2 : Hid ((if t.1 = s.1 then 1 else 0 : Nat) = if (t.1 == s.1) then 1 else 0) := by
                              show _ = _
                              simp
                            clear h1 h2 h3
                            go_wp2
                            go_round
                            case rel =>
                              refine ⟨q + 1, by omega, by go_num, ?_, ?_, ?_⟩
                              · rw [r1.out.1, r2.out, b1]; simp
                              · rw [r1.out.2.1, b1, b2, b3]; simp
                              · rw [r1.out.2.2, b2, b3]; simp
                            case measure => simp [intOf]; omega
                      · as_aux_lemma =>
                          obtain rfl : q = i := by omega
                          clear l4
                          obtain ⟨K, hK⟩ : ∃ K, K = (heldOf (S.take q) s.1).length := ⟨_, rfl⟩
                          have lk : K ≤ 8192 := by rw [hK]; exact Nat.le_trans (held_le (S.take q) s.1) (show (S.take q).length ≤ 8192 by rw [List.length_take]; omega)
                          have HK : Hid (K = (heldOf (S.take q) s.1).length) := hK
                          have hKl : K < (heldOf S s.1).length := by rw [hK]; exact (List.getElem?_eq_some_iff.1 (held_at HS.out)).1
                          have hHl : (heldOf S s.1).length ≤ 8192 := Nat.le_trans (held_le S s.1) hlS
                          rw [← hK]
                          clear hK
                          go_upto_if 153 with fail
                          go_cut [9] from 99 to 238 (fun nh wx => nh = .int .i64 ((holdersOf (S.take (q + 1))).length : Nat) ∧ Below wq.heap.size wq wx)
                          case first => as_aux_lemma =>
                            by_cases hz : heldOf (S.take q) s.1 = []
                            · have hb0 : ((K : Int) == 0) = true := by rw [HK.out, hz]; rfl
                              obtain ⟨hn1, hn2⟩ := holder_next HS.out hz
                              have hnl : (holdersOf (S.take q)).length < N := by rw [HN.out]; exact (List.getElem?_eq_some_iff.1 hn1).1
                              have cgx : wy.cell? ⟨g, (holdersOf (S.take q)).length, none⟩ = some (.int .i64 s.1) := by
                                rw [hby.cell (by exact lg), HG.out _ hnl, List.getD_eq_getElem?_getD, hn1]; rfl
                              have HN2 : Hid ((holdersOf (S.take (q + 1))).length = (holdersOf (S.take q)).length + 1) := hn2
                              clear hz hn1 hn2
                              go_wp2
                              go_meet
                              case rel => exact ⟨val_int (by rw [HN2.out]; omega), hby⟩
                            · have hb0 : ((K : Int) == 0) = false := by
                                rw [beq_eq_false_iff_ne, HK.out]
                                intro e
                                exact hz (List.eq_nil_of_length_eq_zero (by omega))
                              have HZ : Hid (holdersOf (S.take (q + 1)) = holdersOf (S.take q)) := holder_same HS.out hz
                              clear hz
                              go_wp2
                              go_meet
                              case rel => exact ⟨by rw [HZ.out], hby⟩
                          case rest => as_aux_lemma =>
                            clear hby c0 c1 c2 l1
                            obtain ⟨rfl, hby⟩ := hcut
                            obtain ⟨wA, rfl⟩ : ∃ x : World, x = wc := ⟨_, rfl⟩
                            go_wp2_with fail
                            refine (heldLen16i (HF.out.below hby) s.1 g1 g2 hn).mono ?_
                            rintro e w' ⟨rfl, rfl⟩
                            go_wp2_with fail
                            refine (heldAt17i (HF.out.below hby) s.1 K s.2 g1 g2 hn (by rw [HK.out]; exact held_at HS.out) hlS).mono ?_
                            rintro e wB ⟨rfl, hba⟩
                            have hbB := hby.trans (hba.mono hby.size)
                            clear hba
                            go_upto_if 188 with fail
                            go_cut [10, 11, 19] from 99 to 238 (fun nr nd _ wx => nr = .int .i64 ((repsOf (S.take (q + 1))).length : Nat) ∧ nd = .int .i64 ((Ad.distinct (S.take (q + 1))).length : Nat) ∧ Below wq.heap.size wq wx)
                            case first => as_aux_lemma =>
                              by_cases hin : s ∈ S.take q
                              · have hw : isNew (S.take q) s = false := by unfold isNew; simp [hin]
                                obtain ⟨hr1, hr2⟩ := rep_at HS.out hin
                                have hrl : (repsOf (S.take q)).length < (repsOf S).length := (List.getElem?_eq_some_iff.1 hr1).1
                                have hrl2 := Nat.le_trans (reps_le S) hlS
                                have HR : Hid ((repsOf S)[(repsOf (S.take q)).length]? = some s ∧ (repsOf (S.take (q + 1))).length = (repsOf (S.take q)).length + 1 ∧ (Ad.distinct (S.take (q + 1))).length = (Ad.distinct (S.take q)).length) :=
                                  ⟨hr1, hr2, by rw [distinct_new HS.out, if_pos hin]; rfl⟩
                                clear hr1 hr2 hin
                                rw [hw]
                                go_wp2_with fail
                                refine (repLen18 (HF.out.below hbB)).mono ?_
                                rintro e w' ⟨rfl, rfl⟩
                                go_wp2_with fail
                                refine (repAt19 (HF.out.below hbB) _ s HR.out.1 hlS).mono ?_
                                rintro e wD ⟨rfl, hba⟩
                                have hbD := hbB.trans (hba.mono hbB.size)
                                clear hba
                                go_wp2
                                go_meet
                                case rel => exact ⟨val_int (by rw [HR.out.2.1]; omega), by rw [HR.out.2.2], hbD⟩
                              · have hw : isNew (S.take q) s = true := by unfold isNew; simp [hin]
                                have HR : Hid (repsOf (S.take (q + 1)) = repsOf (S.take q) ∧ (Ad.distinct (S.take (q + 1))).length = (Ad.distinct (S.take q)).length + 1) :=
                                  ⟨rep_same HS.out hin, by rw [distinct_new HS.out, if_neg hin]⟩
                                clear hin
                                rw [hw]
                                go_wp2
                                go_meet
                                case rel => exact ⟨by rw [HR.out.1], val_int (by rw [HR.out.2]; omega), hbB⟩
                            case rest => as_aux_lemma =>
                              clear hby hbB l2 l3
                              obtain ⟨rfl, rfl, hby⟩ := hcut
                              obtain ⟨wE, rfl⟩ : ∃ x : World, x = wc := ⟨_, rfl⟩
                              have l4 := Nat.le_trans (Ad.length_distinct_le (targetsOf (S.take q))) (show (targetsOf (S.take q)).length ≤ 8192 by unfold targetsOf; rw [List.length_map, List.length_take]; omega)
                              go_upto_if 217 with fail
                              go_cut [12, 20] from 99 to 238 (fun nt _ wx => nt = .int .i64 ((Ad.distinct (targetsOf (S.take (q + 1)))).length : Nat) ∧ Below wq.heap.size wq wx)
                              case first => as_aux_lemma =>
                                by_cases hin : s.2 ∈ targetsOf (S.take q)
                                · have hw : isNewT (S.take q) s = false := by unfold isNewT; simp [hin]
                                  have HR : Hid ((Ad.distinct (targetsOf (S.take (q + 1)))).length = (Ad.distinct (targetsOf (S.take q))).length) := by
                                    show _ = _
                                    rw [targets_new HS.out, if_pos hin]; rfl
                                  clear hin
                                  rw [hw]
                                  go_wp2
                                  go_meet
                                  case rel => exact ⟨by rw [HR.out], hby⟩
                                · have hw : isNewT (S.take q) s = true := by unfold isNewT; simp [hin]
                                  have HR : Hid ((Ad.distinct (targetsOf (S.take (q + 1)))).length = (Ad.distinct (targetsOf (S.take q))).length + 1) := by
                                    show _ = _
                                    rw [targets_new HS.out, if_neg hin]
                                  clear hin
                                  rw [hw]
                                  go_wp2
                                  go_meet
                                  case rel => exact ⟨val_int (by rw [HR.out]; omega), hby⟩
                              case rest => as_aux_lemma =>
                                clear hby l4
                                obtain ⟨rfl, hby⟩ := hcut
                                obtain ⟨wG, rfl⟩ : ∃ x : World, x = wc := ⟨_, rfl⟩
                                have HSm : Hid (s ∈ S) := List.mem_of_getElem? HS.out
                                go_wp2_with fail
                                refine (holds20 (HF.out.below hby) s.1 s.2.1 s.2.2 o1 o2 o3).mono ?_
                                rintro e wH ⟨b1, rfl, hb1, hba⟩
                                obtain rfl : b1 = true := hb1.2 HSm.out
                                have hby1 := hby.trans (hba.mono hby.size)
                                clear hb1 hba
                                go_wp2_with fail
                                refine (hasTarget21 (HF.out.below hby1) s.2.1 s.2.2 o2 o3).mono ?_
                                rintro e wI ⟨b2, rfl, hb2, hba⟩
                                obtain rfl : b2 = true := hb2.2 (List.mem_map.2 ⟨s, HSm.out, rfl⟩)
                                have hby2 := hby1.trans (hba.mono hby1.size)
                                clear hb2 hba
                                have HW : Hid (wildOf (S.take (q + 1)) = (wildOf (S.take q) || isWildStep s)) := wild_new HS.out
                                by_cases ha : s.2.1 = -1
                                · as_aux_lemma =>
                                    have hb1 : (s.2.1 == -1) = true := by rw [ha]; rfl
                                    have HW2 : Hid (isWildStep s = true) := by
                                      show _ = _
                                      unfold isWildStep; rw [hb1]; rfl
                                    clear ha
                                    go_wp2
                                    go_roundw
                                    case rel => exact ⟨q + 1, by omega, by go_num, rfl, rfl, rfl, rfl, val_bool (by rw [HW.out, HW2.out]; simp), hby2⟩
                                    case measure => simp [intOf]; omega
                                · as_aux_lemma =>
                                    have hb1 : (s.2.1 == -1) = false := by simp [ha]
                                    clear ha
                                    by_cases hr0 : s.2.2 < 0
                                    · have hd : decide (s.2.2 < 0) = true := decide_eq_true hr0
                                      have HW2 : Hid (isWildStep s = true) := by
                                        show _ = _
                                        unfold isWildStep; rw [hb1, hd]; rfl
                                      go_wp2
                                      go_roundw
                                      case rel => exact ⟨q + 1, by omega, by go_num, rfl, rfl, rfl, rfl, val_bool (by rw [HW.out, HW2.out]; simp), hby2⟩
                                      case measure => simp [intOf]; omega
                                    · have hd : decide (s.2.2 < 0) = false := decide_eq_false hr0
                                      have HW2 : Hid (isWildStep s = false) := by
                                        show _ = _
                                        unfold isWildStep; rw [hb1, hd]; rfl
                                      go_wp2
                                      go_roundw
                                      case rel => exact ⟨q + 1, by omega, by go_num, rfl, rfl, rfl, rfl, val_bool (by rw [HW.out, HW2.out]; simp), hby2⟩
                                      case measure => simp [intOf]; omega
                · as_aux_lemma =>
                    obtain rfl : i = j := by omega
                    rw [HSS.out]
                    have HT : Hid (totalTo S n = i) := by
                      show _ = _
                      rw [total_all S n ?_, HL.out]
                      intro s hs
                      obtain ⟨q, hq⟩ := List.getElem?_of_mem hs
                      have := HA.out q s (by have := (List.getElem?_eq_some_iff.1 hq).1; rw [HL.out] at this; exact this) hq
                      exact ⟨this.1, this.2.1⟩
                    go_wp2_with fail
                    go_loopw [28, 29] (fun tv cv wy => ∃ c : Nat, c ≤ n ∧ cv = .int .i64 c ∧ tv = .int .i64 (totalTo S c : Nat) ∧ Below wq.heap.size wq wy) (fun _ cv _ => n - (intOf cv).toNat)
                    case atStart => exact ⟨0, Nat.zero_le _, rfl, rfl, hby⟩
                    case round =>
                      clear hby
                      obtain ⟨wz, rfl⟩ : ∃ x : World, x = wr := ⟨_, rfl⟩
                      obtain ⟨c, hc, rfl, rfl, hbz⟩ := hrel
                      have lt := Nat.le_trans (total_le S c) hlS
                      by_cases hlt5 : c < n
                      · as_aux_lemma =>
                          have lh := Nat.le_trans (held_le S c) hlS
                          go_wp2_with fail
                          refine (heldLen16 (HF.out.below hbz) c hlt5 hn).mono ?_
                          rintro e w' ⟨rfl, rfl⟩
                          go_wp2
                          go_roundw
                          case rel => exact ⟨c + 1, by omega, by go_num, val_int (by show _ = ((totalTo S c + (heldOf S c).length : Nat) : Int); omega), hbz⟩
                          case measure => simp [intOf]; omega
                      · as_aux_lemma =>
                          obtain rfl : c = n := by omega
                          have HE : Hid (Below w.heap.size w wz) := HB.out.trans (hbz.mono HB.out.size)
                          have k1 : ((((holdersOf S).length : Nat) : Int) == (N : Int)) = true := by rw [HN.out]; simp
                          rw [HT.out]
                          go_wp2_with fail
                          refine (repLen18 (HF.out.below hbz)).mono ?_
                          rintro e w' ⟨rfl, rfl⟩
                          go_wp2_with fail
                          refine (holdsLen22 (HF.out.below hbz)).mono ?_
                          rintro e w' ⟨rfl, rfl⟩
                          go_wp2_with fail
                          refine (targetsLen23 (HF.out.below hbz)).mono ?_
                          rintro e w' ⟨rfl, rfl⟩
                          go_wp2_with fail
                          refine (wild24 (HF.out.below hbz)).mono ?_
                          rintro e w' ⟨rfl, rfl⟩
                          go_wp2
                          go_ret
                          exact ⟨by simp, HE.out⟩
end Go.Proofs.Qxb6608516a.adX
