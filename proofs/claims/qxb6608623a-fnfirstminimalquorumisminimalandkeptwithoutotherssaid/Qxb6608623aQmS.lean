/- THE WALKS of sort.Search with its test, of 'add', of 'ids'. -/
import Derived.Test.Qxb6608623aQmW
import Derived.Below
import Derived.BigQuiet
import Derived.Deep.RegionHeld3
import Derived.Deep.RegionLaw
import Derived.Deep.AppendLies
import Derived.Deep.DrawnRows
import Derived.Deep.DeepCutAuto
import Derived.Deep.CutBlock
namespace Go.Proofs.Qxb6608623a.qmS
open Go.RowKit
open Go.Proofs.Qxb6608623a.Qm
open Go.Proofs.Qxb6608623a.qmW
set_option linter.unusedVariables false

theorem below_drewN (w : World) (n : Nat) : Below w.heap.size w (w.drewN n) := ⟨rfl, rfl, rfl, Nat.le_refl _, fun _ _ => rfl⟩
/-- the cells of subset i of the row at (b, o) -/
def SbAt (w : World) (b o i : Nat) (s : Sb) : Prop :=
  w.cell? ⟨b, o + i * 3, none⟩ = some (.int .u64 s.m) ∧ w.cell? ⟨b, o + i * 3 + 1, none⟩ = some (.int .u64 s.w) ∧ w.cell? ⟨b, o + i * 3 + 2, none⟩ = some (.int .u64 s.c)
theorem SbAt.below {w w' : World} {B b o i : Nat} {s : Sb} (h : SbAt w b o i s) (hb : Below B w w') (hl : b < B) : SbAt w' b o i s :=
  ⟨(hb.cell (by exact hl)).trans h.1, (hb.cell (by exact hl)).trans h.2.1, (hb.cell (by exact hl)).trans h.2.2⟩

set_option maxRecDepth 100000 in
theorem test53 (i g o n cap bud sc b20 b5 b19 : Nat) (s : Sb) (hi : i < n) (hn : n ≤ 1073741824) (hbud : U bud) (hsc : sc ≤ bud) (hc : U s.c) (w : World)
    (h20 : w.cell? ⟨b20, 0, none⟩ = some (.slice (some ⟨g, o, none⟩) n cap)) (h5 : w.cell? ⟨b5, 0, none⟩ = some (.int .u64 bud)) (h19 : w.cell? ⟨b19, 2, none⟩ = some (.int .u64 sc))
    (hs : w.cell? ⟨g, o + i * 3 + 2, none⟩ = some (.int .u64 s.c)) :
    Calls Try.prog 53 #[.int .i64 i, .pointer (some ⟨b20, 0, none⟩), .pointer (some ⟨b5, 0, none⟩), .pointer (some ⟨b19, 0, none⟩)] w fun e w' => e = .returned (.bool (decide (bud - sc < s.c))) ∧ Below w.heap.size w w' := by
  unfold U at hbud hc
  have hi0 : (0 : Int) ≤ (i : Int) := Int.natCast_nonneg _
  have hi1 : (i : Int) < (n : Int) := by omega
  have hd : decide ((bud : Int) - (sc : Int) < (s.c : Int)) = decide (bud - sc < s.c) := decide_eq_decide.2 (by omega)
  go_enter Try.func53, Try.ntmps53
  go_wp2_with fail
  go_quiet (fail)
  go_wp2
  go_ret
  exact ⟨rfl, below_drewN _ _⟩

/-- what the search finds: those ahead are within what is left of the budget, the others are not -/
theorem search52 (g o cap bud sc b20 b5 b19 : Nat) (T : List Sb) (n : Nat) (hT : T.length = n) (hn : n ≤ 1073741824) (hbud : U bud) (hsc : sc ≤ bud) (hsort : SortedC T) (w : World)
    (hu : ∀ s ∈ T, U s.c) (hg : 0 < n → g < w.heap.size)
    (h20 : w.cell? ⟨b20, 0, none⟩ = some (.slice (some ⟨g, o, none⟩) n cap)) (h5 : w.cell? ⟨b5, 0, none⟩ = some (.int .u64 bud)) (h19 : w.cell? ⟨b19, 2, none⟩ = some (.int .u64 sc))
    (hs : ∀ i s, T[i]? = some s → SbAt w g o i s) :
    Calls Try.prog 52 #[.int .i64 n, .func (.func 53) #[] #[.pointer (some ⟨b20, 0, none⟩), .pointer (some ⟨b5, 0, none⟩), .pointer (some ⟨b19, 0, none⟩)]] w
      fun e w' => ∃ r : Nat, r ≤ n ∧ e = .returned (.int .i64 r) ∧ (∀ i s, T[i]? = some s → (s.c ≤ bud - sc ↔ i < r)) ∧ Below w.heap.size w w' := by
  have l20 : b20 < w.heap.size := World.block_lt_of_cell? w _ h20
  have l5 : b5 < w.heap.size := World.block_lt_of_cell? w _ h5
  have l19 : b19 < w.heap.size := World.block_lt_of_cell? w _ h19
  have HS : Hid (∀ i s, T[i]? = some s → SbAt w g o i s) := hs
  have HT : Hid (T.length = n) := hT
  have HU : Hid (∀ s ∈ T, U s.c) := hu
  have HG : Hid (0 < n → g < w.heap.size) := hg
  have mono : Hid (∀ (i j : Nat) (s t : Sb), T[i]? = some s → T[j]? = some t → i ≤ j → s.c ≤ t.c) := by
    intro i j s t hi hj hij
    rcases Nat.lt_or_eq_of_le hij with h | h
    · obtain ⟨h1, e1⟩ := List.getElem?_eq_some_iff.1 hi
      obtain ⟨h2, e2⟩ := List.getElem?_eq_some_iff.1 hj
      have := List.pairwise_iff_getElem.1 hsort i j h1 h2 h
      rw [e1, e2] at this
      exact this
    · subst h
      rw [hi] at hj
      cases hj
      exact Nat.le_refl _
  clear hs hT hu hsort hg
  go_enter Try.func52, Try.ntmps52
  go_wp2
  go_loopw [5, 6] (fun i j wr => ∃ p q : Nat, p ≤ q ∧ q ≤ n ∧ i = .int .i64 p ∧ j = .int .i64 q ∧ (∀ (k : Nat) (s : Sb), T[k]? = some s → (k < p → s.c ≤ bud - sc) ∧ (q ≤ k → bud - sc < s.c)) ∧ Below w.heap.size w wr) (fun i j _ => (intOf j).toNat - (intOf i).toNat)
  case atStart => exact ⟨0, n, Nat.zero_le _, Nat.le_refl _, rfl, rfl, fun k s hk => ⟨fun h => absurd h (by omega), fun h => by
    have := (List.getElem?_eq_some_iff.1 hk).1
    rw [HT.out] at this
    omega⟩, Below.refl _ _⟩
  case round =>
    obtain ⟨p, q, hpq, hq, rfl, rfl, hpart, hbel⟩ := hrel
    have HP : Hid (∀ (k : Nat) (s : Sb), T[k]? = some s → (k < p → s.c ≤ bud - sc) ∧ (q ≤ k → bud - sc < s.c)) := hpart
    clear hpart
    by_cases hlt : p < q
    · obtain ⟨m, hm⟩ : ∃ m, m = (p + q) / 2 := ⟨_, rfl⟩
      have hmid : ((p : Int) + (q : Int)) / 2 = (m : Int) := by omega
      have hmp : p ≤ m := by omega
      have hmq : m < q := by omega
      clear hm
      obtain ⟨s, hsm⟩ : ∃ s, T[m]? = some s := ⟨_, List.getElem?_eq_getElem (by rw [HT.out]; omega)⟩
      have HM : Hid (T[m]? = some s) := hsm
      have hgl := HG.out (by omega)
      have hc2 := ((HS.out _ s hsm).below hbel hgl).2.2
      have hus := HU.out s (List.mem_of_getElem? hsm)
      have c20 := (hbel.cell (show (⟨b20, 0, none⟩ : Addr).block < w.heap.size from l20)).trans h20
      have c5 := (hbel.cell (show (⟨b5, 0, none⟩ : Addr).block < w.heap.size from l5)).trans h5
      have c19 := (hbel.cell (show (⟨b19, 2, none⟩ : Addr).block < w.heap.size from l19)).trans h19
      clear hsm
      go_wp2_with fail
      refine (test53 m g o n cap bud sc b20 b5 b19 s (by omega) hn hbud hsc hus _ c20 c5 c19 hc2).mono ?_
      rintro e w2 ⟨rfl, hb2⟩
      have hbel2 := hbel.trans (hb2.mono hbel.size)
      clear hb2
      by_cases hin : bud - sc < s.c
      · have hd : decide (bud - sc < s.c) = true := decide_eq_true hin
        have HIN : Hid (bud - sc < s.c) := hin
        clear hin
        go_wp2
        go_roundw
        case rel => exact ⟨p, m, by omega, by omega, by go_num, by go_num, fun k t hk => ⟨(HP.out k t hk).1, fun hmk => Nat.lt_of_lt_of_le HIN.out (mono.out m k s t HM.out hk hmk)⟩, hbel2⟩
        case measure => simp [intOf]; omega
      · have hd : decide (bud - sc < s.c) = false := decide_eq_false hin
        have HIN : Hid (¬ bud - sc < s.c) := hin
        clear hin
        go_wp2
        go_roundw
        case rel => exact ⟨m + 1, q, by omega, by omega, by go_num, by go_num, fun k t hk => ⟨fun hkm => Nat.le_trans (mono.out k m t s hk HM.out (by omega)) (Nat.not_lt.1 HIN.out), (HP.out k t hk).2⟩, hbel2⟩
        case measure => simp [intOf]; omega
    · obtain rfl : p = q := by omega
      go_wp2
      go_ret
      refine ⟨p, hq, rfl, fun i s hi => ?_, hbel⟩
      have := HP.out i s hi
      constructor
      · intro h
        rcases Nat.lt_or_ge i p with h' | h'
        · exact h'
        · have := this.2 h'
          omega
      · exact this.1

theorem or_u (a c : Nat) (ha : U a) (hc : U c) : bits .or .u64 (a : Int) (c : Int) = ((a ||| c : Nat) : Int) := by
  unfold U at ha hc
  exact bits_or_u64_nat a c (by omega) (by omega)

set_option maxRecDepth 100000 in
set_option maxHeartbeats 4000000 in
/-- the closure 'add' -/
theorem add57 (n p thr over b7 b9 b10 b4 b5 : Nat) (v : Vt) (s : Sb) (hp : p < n) (hn : n ≤ 17) (hm : s.m < 131072) (hw : s.w ≤ thr) (hc : s.c ≤ over) (hthr : U thr) (hover : U over) (hvw : U v.w) (hvc : U v.c) (w : World)
    (h7 : w.cell? ⟨b7, 0, none⟩ = some (.int .i64 n)) (h9 : w.cell? ⟨b9, 0, none⟩ = some (.int .i64 p)) (h101 : w.cell? ⟨b10, 1, none⟩ = some (.int .u64 v.w)) (h102 : w.cell? ⟨b10, 2, none⟩ = some (.int .u64 v.c))
    (h4 : w.cell? ⟨b4, 0, none⟩ = some (.int .u64 thr)) (h5 : w.cell? ⟨b5, 0, none⟩ = some (.int .u64 over)) :
    Calls Try.prog 57 #[.agg #[.int .u64 s.m, .int .u64 s.w, .int .u64 s.c], .pointer (some ⟨b7, 0, none⟩), .pointer (some ⟨b9, 0, none⟩), .pointer (some ⟨b10, 0, none⟩), .pointer (some ⟨b4, 0, none⟩), .pointer (some ⟨b5, 0, none⟩)] w
      fun e w' => e = .returned (.agg #[.int .u64 (addS n p thr over v s).m, .int .u64 (addS n p thr over v s).w, .int .u64 (addS n p thr over v s).c]) ∧ Below w.heap.size w w' := by
  have l7 : b7 < w.heap.size := World.block_lt_of_cell? w _ h7
  have l9 : b9 < w.heap.size := World.block_lt_of_cell? w _ h9
  have l10 : b10 < w.heap.size := World.block_lt_of_cell? w _ h101
  have l4 : b4 < w.heap.size := World.block_lt_of_cell? w _ h4
  have l5 : b5 < w.heap.size := World.block_lt_of_cell? w _ h5
  have hpw : 2 ^ (n - 1 - p) ≤ 65536 := Nat.pow_le_pow_right (n := 2) (by omega) (show n - 1 - p ≤ 16 by omega)
  have HM : Hid ((addS n p thr over v s).m = s.m ||| 2 ^ (n - 1 - p)) := rfl
  have HW : Hid ((addS n p thr over v s).w = addU s.w v.w thr) := rfl
  have HC : Hid ((addS n p thr over v s).c = addU s.c v.c over) := rfl
  generalize hR : addS n p thr over v s = R at *
  clear hR
  obtain ⟨k, hk⟩ : ∃ k, k = n - 1 - p := ⟨_, rfl⟩
  rw [← hk] at HM hpw
  obtain ⟨n1, hn1⟩ : ∃ n1, n1 = n - 1 := ⟨_, rfl⟩
  have ew1 : IntKind.i64.wrap ((n : Int) - 1) = (n1 : Int) := by rw [IntKind.wrap_i64]; omega
  have ew2 : IntKind.i64.wrap ((n1 : Int) - (p : Int)) = (k : Int) := by rw [IntKind.wrap_i64]; omega
  have hk16 : k ≤ 16 := by omega
  clear hk hn1
  have e2 : (2 : Int) ^ k = ((2 ^ k : Nat) : Int) := by push_cast; rfl
  generalize hP : 2 ^ k = P at *
  have esh : IntKind.u64.wrap (1 * 2 ^ k) = (P : Int) := by
    rw [IntKind.wrap_u64, e2]
    omega
  have esh2 : IntKind.u64.wrap (2 ^ k) = (P : Int) := by
    rw [IntKind.wrap_u64, e2]
    omega
  clear esh e2 hP
  have eor := or_u s.m P (by unfold U; omega) (by unfold U; omega)
  go_enter Try.func57, Try.ntmps57
  go_wp2_with fail
  go_region_held3 (fun w' => w'.cell? ⟨b7, 0, none⟩ = some (.int .i64 n) ∧ w'.cell? ⟨b9, 0, none⟩ = some (.int .i64 p) ∧ w'.cell? ⟨b10, 1, none⟩ = some (.int .u64 v.w) ∧ w'.cell? ⟨b10, 2, none⟩ = some (.int .u64 v.c) ∧ w'.cell? ⟨b4, 0, none⟩ = some (.int .u64 thr) ∧ w'.cell? ⟨b5, 0, none⟩ = some (.int .u64 over) ∧ w'.cell? ⟨w.heap.size, 0, none⟩ = some (.int .u64 s.m) ∧ w'.cell? ⟨w.heap.size, 1, none⟩ = some (.int .u64 s.w) ∧ w'.cell? ⟨w.heap.size, 2, none⟩ = some (.int .u64 s.c))
    (go_keep)
    ((go_at_call 44; refine (add44 _ _ _ (by assumption) (by assumption) (by assumption) _).mono ?_; rintro e w' ⟨rfl, rfl⟩))
  go_wp2
  refine bodyPost_ret (v := .agg #[.int .u64 R.m, .int .u64 R.w, .int .u64 R.c]) (by simp [results, Try.results57, go_sem]; exact ⟨by rw [HM.out], by rw [HW.out], by rw [HC.out]⟩) rfl ⟨rfl, ((((Below.refl _ _).alloc (Nat.le_refl _) _).alloc (by simp) _)).drew⟩

end Go.Proofs.Qxb6608623a.qmS
