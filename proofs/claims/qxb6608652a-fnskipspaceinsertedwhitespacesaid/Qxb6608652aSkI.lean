import Derived.Test.Qxb6608652aSkL
namespace Go.Proofs.Qxb6608652a.skI
open Go.RowKit
open Go.Proofs.Qxb6608652a.Sk (ws IsSkip)
open Go.Proofs.Qxb6608652a.skW (Rd skip8 lands9 isws)
open Go.Proofs.Qxb6608652a.skL (skip8i copied info5)
set_option linter.unusedVariables false

theorem src_cells {w : World} {b o : Nat} {xs : List Int} (h : ∀ j, j < xs.length → w.cell? ⟨b, o + j, none⟩ = some (.int .u8 (xs.getD j 0))) {L : List Value} (hL : L = xs.map (Value.int .u8))
    {ao : Option Addr} (hao : xs ≠ [] → ao = some ⟨b, o, none⟩) : ∀ ad : Addr, ao = some ad → ∀ (j : Nat) (u : Value), L[j]? = some u → w.cell? (ad.add j) = some u := by
  intro ad had j u hu
  rw [hL] at hu
  have hj : j < xs.length := by
    have := (List.getElem?_eq_some_iff.1 hu).1
    simpa using this
  have e := hao (fun e => by rw [e] at hj; simp at hj)
  rw [had] at e
  simp only [Option.some.injEq] at e
  rw [e, Go.WideShapes.add_plain, h j hj]
  rw [List.getElem?_map, List.getElem?_eq_getElem hj] at hu
  simp only [Option.map_some, Option.some.injEq] at hu
  rw [← hu, List.getD_eq_getElem?_getD, List.getElem?_eq_getElem hj]; rfl

/-- the row that three appends have filled reads as the text with the white space put in -/
theorem rd_of_owned {w : World} {base g m cap : Nat} {zs : List Int} {cs : List Value} (h : w.ownsRow base 5 1 (.slice (some ⟨g, 0, none⟩) m cap) m cs) (hc : cs = zs.map (Value.int .u8)) :
    Rd w (some ⟨g, 0, none⟩) zs := by
  refine .inr ⟨g, 0, rfl, fun j hj => ?_⟩
  obtain ⟨_, ⟨h1, _⟩ | ⟨g', cp, cur, h1, _, hh, hle, _, hsz, ht⟩⟩ := h
  · simp at h1
  · simp only [Value.slice.injEq, Option.some.injEq, Addr.mk.injEq] at h1
    obtain ⟨⟨rfl, _⟩, _, rfl⟩ := h1
    have e : w.cell? ⟨g, 0 + j, none⟩ = cur[j]? := by simp [World.cell?, hh]
    rw [e]
    have e2 : cs[j]? = some (.int .u8 (zs.getD j 0)) := by
      rw [hc, List.getElem?_map, List.getElem?_eq_getElem hj, List.getD_eq_getElem?_getD, List.getElem?_eq_getElem hj]; rfl
    rw [← ht, List.getElem?_take] at e2
    split at e2
    · rw [← e2]; simp
    · cases e2

set_option maxHeartbeats 2000000 in
theorem law4 (x : Addr) (n cap : Nat) (xs : List Int) (i p : Nat) (hn : xs.length = n) (hl : n ≤ 1048576) (hi : i ≤ p) (hp : p ≤ n)
    (b o m c3 : Nat) (vs : List Int) (hm : vs.length = m) (hlm : n + m ≤ 1048576) (w : World)
    (hx : ∀ j, j < n → w.cell? (x.add j) = some (.int .u8 (xs.getD j 0)))
    (hv : ∀ j, j < m → w.cell? ⟨b, o + j, none⟩ = some (.int .u8 (vs.getD j 0))) (hb : b < w.heap.size) :
    Calls Try.prog 4 #[.slice (some x) n cap, .int .i64 i, .int .i64 p, .slice (some ⟨b, o, none⟩) m c3] w fun e w' => e = .returned (.bool true) ∧ Below w.heap.size w w' := by
  obtain ⟨i0, hi0, hz0, hz1, hz2⟩ := info_parts info5
  have hnil := fun w => run_neq_slice_nil_any (P := Try.prog) w 22 5 (some x) n cap 0 0 Try.underlying22
  have HN : Hid (xs.length = n) := hn
  have HM : Hid (vs.length = m) := hm
  have HX : Hid (∀ j, j < n → w.cell? (x.add j) = some (.int .u8 (xs.getD j 0))) := hx
  have HV : Hid (∀ j, j < m → w.cell? ⟨b, o + j, none⟩ = some (.int .u8 (vs.getD j 0))) := hv
  clear hn hx hm hv
  have d1 : decide (1048576 < (n : Int)) = false := decide_eq_false (by omega)
  have d2 : decide (1048576 < (m : Int)) = false := decide_eq_false (by omega)
  have d3 : decide ((i : Int) < 0) = false := decide_eq_false (by omega)
  obtain ⟨L1, hL1⟩ : ∃ L1, L1 = (xs.take p).map (Value.int .u8) := ⟨_, rfl⟩
  obtain ⟨L2, hL2⟩ : ∃ L2, L2 = vs.map (Value.int .u8) := ⟨_, rfl⟩
  obtain ⟨L3, hL3⟩ : ∃ L3, L3 = (xs.drop p).map (Value.int .u8) := ⟨_, rfl⟩
  have l1 : L1.length = p * 1 := by rw [hL1, List.length_map, List.length_take]; have := HN.out; omega
  have l2 : L2.length = m * 1 := by rw [hL2, List.length_map]; have := HM.out; omega
  have l3 : L3.length = (n - p) * 1 := by rw [hL3, List.length_map, List.length_drop]; have := HN.out; omega
  have o1 : ∀ u ∈ L1, u.oneCell' = true := by rw [hL1]; exact ints_oneCell _ _
  have o2 : ∀ u ∈ L2, u.oneCell' = true := by rw [hL2]; exact ints_oneCell _ _
  have o3 : ∀ u ∈ L3, u.oneCell' = true := by rw [hL3]; exact ints_oneCell _ _
  have HL1 : Hid (L1 = (xs.take p).map (Value.int .u8) ∧ L1.length = p * 1 ∧ ∀ u ∈ L1, u.oneCell' = true) := ⟨hL1, l1, o1⟩
  have HL2 : Hid (L2 = vs.map (Value.int .u8) ∧ L2.length = m * 1 ∧ ∀ u ∈ L2, u.oneCell' = true) := ⟨hL2, l2, o2⟩
  have HL3 : Hid (L3 = (xs.drop p).map (Value.int .u8) ∧ L3.length = (n - p) * 1 ∧ ∀ u ∈ L3, u.oneCell' = true) := ⟨hL3, l3, o3⟩
  clear hL1 hL2 hL3 l1 l2 l3 o1 o2 o3
  go_enter Try.func4, Try.ntmps4
  go_wp2_with (first | (at_make; refine wpList_make_full _ rfl _ _ 22 rfl w.heap.size 5 i0 (.int .u8 0) 1 Try.underlying22 hi0 hz0 hz1 .i64 .i64 _ _ n rfl rfl rfl rfl (by rw [hz2]; omega) (by unfold maxLen; omega) (Nat.le_refl _) ?_; intro w1 hown1 hgrow1; obtain ⟨w2, hrun, hcell, hbel, hsz⟩ := copied w w1 x n cap xs _ HN.out HX.out hown1 hgrow1; have HC : Hid (∀ j, j < n → w2.cell? ⟨w.heap.size, j, none⟩ = some (.int .u8 (xs.getD j 0))) := hcell; clear hcell hown1) | (go_at_call 10; go_in))
  have hbl : ∀ j, j < m → w2.cell? ⟨b, o + j, none⟩ = some (.int .u8 (vs.getD j 0)) := fun j hj => (hbel.cell (by exact hb)).trans (HV.out j hj)
  have HB : Hid (∀ j, j < m → w2.cell? ⟨b, o + j, none⟩ = some (.int .u8 (vs.getD j 0))) := hbl
  clear hbl
  go_loop [10] (fun v => ∃ k : Nat, k ≤ m ∧ v = .int .i64 k ∧ ∀ j, j < k → ws (vs.getD j 0) = true) (fun v => m - (intOf v).toNat)
  case atStart => exact ⟨0, Nat.zero_le _, rfl, fun j hj => absurd hj (by omega)⟩
  case round =>
    obtain ⟨k, hk, rfl, hall⟩ := hrel
    have HA : Hid (∀ j, j < k → ws (vs.getD j 0) = true) := hall
    clear hall
    by_cases hlt : k < m
    · obtain ⟨y, hy⟩ : ∃ y, y = vs.getD k 0 := ⟨_, rfl⟩
      have hc : w2.cell? ⟨b, o + k, none⟩ = some (.int .u8 y) := by rw [hy]; exact HB.out k hlt
      have HY : Hid (y = vs.getD k 0) := hy
      clear hy
      by_cases hw : ws y = true
      · go_wp2_with fail
        refine (isws y _).mono ?_
        rintro e w' ⟨rfl, rfl⟩
        go_wp2
        go_round
        case rel => exact ⟨k + 1, by omega, by go_num, fun j hj => by
          by_cases h : j < k
          · exact HA.out j h
          · obtain rfl : j = k := by omega
            rw [← HY.out]; exact hw⟩
        case measure => simp [intOf]; omega
      · have hw' : ws y = false := Bool.eq_false_iff.2 hw
        clear hw
        go_wp2_with fail
        refine (isws y _).mono ?_
        rintro e w' ⟨rfl, rfl⟩
        go_wp2
        go_ret
        exact ⟨rfl, hbel⟩
    · obtain rfl : k = m := by omega
      have hrd : Rd w2 (some ⟨w.heap.size, 0, none⟩) xs := .inr ⟨w.heap.size, 0, rfl, fun j hj => by rw [Nat.zero_add]; exact HC.out j (by rw [← HN.out]; exact hj)⟩
      go_wp2_with fail
      refine (skip8i _ n n xs i HN.out (by omega) (by omega) (by omega) _ hrd).mono ?_
      rintro e w' ⟨r, rfl, hr, rfl⟩
      rw [Int.toNat_natCast] at hr
      go_wp2_with fail
      refine (lands9 _ n n xs i r HN.out (by omega) _ hrd hr).mono ?_
      rintro e w' ⟨rfl, rfl⟩
      have hrle : r ≤ n := by have := hr.hi; have := HN.out; omega
      have hw2 : w.heap.size < w2.heap.size := hsz
      by_cases hpn : p = n
      · subst hpn
        go_wp2_with (first | (at_make; refine wpList_make_own _ rfl _ _ 22 rfl w.heap.size 5 i0 (.int .u8 0) 1 Try.underlying22 hi0 hz0 hz1 .i64 .i64 _ (p + k) rfl rfl (by omega) (by rw [hz2]; omega) (by unfold maxLen; omega) (by omega) ?_; intro w3 hown3 hg3) | (at_builtin; refine wpList_append_fits_any _ rfl (.tmp 78) (.tmp 81) 22 rfl w.heap.size 5 i0 1 Try.underlying22 hi0 hz1 w2.heap.size 0 (p + k) [] rfl hown3 (some ⟨w.heap.size, 0, none⟩) p _ L1 rfl HL1.out.2.1 (by intro h; cases h) (src_cells (b := w.heap.size) (o := 0) (xs := xs.take p) (fun j hj => hg3.cell (by rw [List.length_take] at hj; rw [Nat.zero_add, Sk.getD_take xs p j (by omega)]; exact HC.out j (by omega)) (by simp)) HL1.out.1 (fun _ => rfl)) HL1.out.2.2 (by omega) ?_; intro w4 hown4 hg4; simp only [Nat.zero_add, List.nil_append] at hown4) | (at_builtin; refine wpList_append_fits_any _ rfl (.tmp 83) (.tmp 84) 22 rfl w.heap.size 5 i0 1 Try.underlying22 hi0 hz1 w2.heap.size p (p + k) L1 rfl hown4 (some ⟨b, o, none⟩) k _ L2 rfl HL2.out.2.1 (by intro h; cases h) (src_cells (b := b) (o := o) (xs := vs) (fun j hj => hg4.cell (hg3.cell (HB.out j (by rw [← HM.out]; exact hj)) (by simp)) (by simp; omega)) HL2.out.1 (fun _ => rfl)) HL2.out.2.2 (by omega) ?_; intro w5 hown5 hg5))
        have hzs : (xs.take p ++ vs ++ xs.drop p).length = p + k + (p - p) := by
          have := HN.out; have := HM.out; simp; omega
        have hrd2 : Rd w5 (some ⟨w2.heap.size, 0, none⟩) (xs.take p ++ vs ++ xs.drop p) := rd_of_owned hown5 (by rw [HL1.out.1, HL2.out.1, List.drop_eq_nil_of_le (show xs.length ≤ p by have := HN.out; omega)]; simp)
        have hbel2 : Below w.heap.size w w5 := ((hbel.grown hg3 (by omega) (fun k h => by cases h)).grown hg4 (by have := hg3.size; omega) (fun k h => by cases h; omega)).grown hg5 (by have := hg3.size; have := hg4.size; omega) (fun k h => by cases h; omega)
        refine (skip8i _ _ _ (xs.take p ++ vs ++ xs.drop p) i (by first | exact hzs | (rw [hzs]; omega)) (by omega) (by omega) (by omega) _ hrd2).mono ?_
        rintro e w' ⟨r2, rfl, hr2, rfl⟩
        rw [Int.toNat_natCast] at hr2
        by_cases hpr : p ≤ r
        · have he : r2 = r + vs.length := hr2.uniq (Sk.ins_at (by have := HN.out; omega) hi hr (fun j hj => HA.out j (by have := HM.out; omega)) hpr)
          have hb2 : (((r2 : Nat) : Int) == (r : Int) + (k : Int)) = true := by rw [he, HM.out]; simp
          clear he
          go_wp2
          go_ret
          exact ⟨rfl, hbel2⟩
        · have he : r2 = r := hr2.uniq (Sk.ins_past (by have := HN.out; omega) hr (by omega))
          have hb2 : (((r2 : Nat) : Int) == (r : Int)) = true := by rw [he]; simp
          clear he
          go_wp2
          go_ret
          exact ⟨rfl, hbel2⟩
      · have hpn' : p < n := by omega
        have hnp : (n = p) = False := by simp; omega
        clear hpn
        go_wp2_with (first | (at_make; refine wpList_make_own _ rfl _ _ 22 rfl w.heap.size 5 i0 (.int .u8 0) 1 Try.underlying22 hi0 hz0 hz1 .i64 .i64 _ (n + k) rfl rfl (by omega) (by rw [hz2]; omega) (by unfold maxLen; omega) (by omega) ?_; intro w3 hown3 hg3) | (at_builtin; refine wpList_append_fits_any _ rfl (.tmp 78) (.tmp 81) 22 rfl w.heap.size 5 i0 1 Try.underlying22 hi0 hz1 w2.heap.size 0 (n + k) [] rfl hown3 (some ⟨w.heap.size, 0, none⟩) p _ L1 rfl HL1.out.2.1 (by intro h; cases h) (src_cells (b := w.heap.size) (o := 0) (xs := xs.take p) (fun j hj => hg3.cell (by rw [List.length_take] at hj; rw [Nat.zero_add, Sk.getD_take xs p j (by omega)]; exact HC.out j (by omega)) (by simp)) HL1.out.1 (fun _ => rfl)) HL1.out.2.2 (by omega) ?_; intro w4 hown4 hg4; simp only [Nat.zero_add, List.nil_append] at hown4) | (at_builtin; refine wpList_append_fits_any _ rfl (.tmp 83) (.tmp 84) 22 rfl w.heap.size 5 i0 1 Try.underlying22 hi0 hz1 w2.heap.size p (n + k) L1 rfl hown4 (some ⟨b, o, none⟩) k _ L2 rfl HL2.out.2.1 (by intro h; cases h) (src_cells (b := b) (o := o) (xs := vs) (fun j hj => hg4.cell (hg3.cell (HB.out j (by rw [← HM.out]; exact hj)) (by simp)) (by simp; omega)) HL2.out.1 (fun _ => rfl)) HL2.out.2.2 (by omega) ?_; intro w5 hown5 hg5) | (at_builtin; refine wpList_append_fits_any _ rfl (.tmp 86) (.tmp 89) 22 rfl w.heap.size 5 i0 1 Try.underlying22 hi0 hz1 w2.heap.size (p + k) (n + k) (L1 ++ L2) rfl hown5 (some ⟨w.heap.size, p, none⟩) (n - p) _ L3 rfl HL3.out.2.1 (by intro h; cases h) (src_cells (b := w.heap.size) (o := p) (xs := xs.drop p) (fun j hj => hg5.cell (hg4.cell (hg3.cell (by rw [List.length_drop] at hj; rw [Sk.getD_drop]; exact HC.out (p + j) (by have := HN.out; omega)) (by simp)) (by simp; omega)) (by simp; omega)) HL3.out.1 (fun _ => rfl)) HL3.out.2.2 (by omega) ?_; intro w6 hown6 hg6))
        have hzs : (xs.take p ++ vs ++ xs.drop p).length = p + k + (n - p) := by
          have := HN.out; have := HM.out; simp; omega
        have hrd2 : Rd w6 (some ⟨w2.heap.size, 0, none⟩) (xs.take p ++ vs ++ xs.drop p) := rd_of_owned hown6 (by rw [HL1.out.1, HL2.out.1, HL3.out.1]; simp)
        have hbel2 : Below w.heap.size w w6 := (((hbel.grown hg3 (by omega) (fun k h => by cases h)).grown hg4 (by have := hg3.size; omega) (fun k h => by cases h; omega)).grown hg5 (by have := hg3.size; have := hg4.size; omega) (fun k h => by cases h; omega)).grown hg6 (by have := hg3.size; have := hg4.size; have := hg5.size; omega) (fun k h => by cases h; omega)
        refine (skip8i _ _ _ (xs.take p ++ vs ++ xs.drop p) i (by first | exact hzs | (rw [hzs]; omega)) (by omega) (by omega) (by omega) _ hrd2).mono ?_
        rintro e w' ⟨r2, rfl, hr2, rfl⟩
        rw [Int.toNat_natCast] at hr2
        by_cases hpr : p ≤ r
        · have he : r2 = r + vs.length := hr2.uniq (Sk.ins_at (by have := HN.out; omega) hi hr (fun j hj => HA.out j (by have := HM.out; omega)) hpr)
          have hb2 : (((r2 : Nat) : Int) == (r : Int) + (k : Int)) = true := by rw [he, HM.out]; simp
          clear he
          go_wp2
          go_ret
          exact ⟨rfl, hbel2⟩
        · have he : r2 = r := hr2.uniq (Sk.ins_past (by have := HN.out; omega) hr (by omega))
          have hb2 : (((r2 : Nat) : Int) == (r : Int)) = true := by rw [he]; simp
          clear he
          go_wp2
          go_ret
          exact ⟨rfl, hbel2⟩
set_option maxHeartbeats 2000000 in
theorem law4E (x : Addr) (n cap : Nat) (xs : List Int) (i p : Nat) (hn : xs.length = n) (hl : n ≤ 1048576) (hi : i ≤ p) (hp : p ≤ n)
    (a3 : Option Addr) (c3 : Nat) (h3 : a3 = none → c3 = 0) (w : World)
    (hx : ∀ j, j < n → w.cell? (x.add j) = some (.int .u8 (xs.getD j 0))) :
    Calls Try.prog 4 #[.slice (some x) n cap, .int .i64 i, .int .i64 p, .slice a3 0 c3] w fun e w' => e = .returned (.bool true) ∧ Below w.heap.size w w' := by
  obtain ⟨i0, hi0, hz0, hz1, hz2⟩ := info_parts info5
  have hnil := fun w => run_neq_slice_nil_any (P := Try.prog) w 22 5 (some x) n cap 0 0 Try.underlying22
  have HN : Hid (xs.length = n) := hn
  have HX : Hid (∀ j, j < n → w.cell? (x.add j) = some (.int .u8 (xs.getD j 0))) := hx
  have H3 : Hid (a3 = none → c3 = 0) := h3
  clear hn hx h3
  have d1 : decide (1048576 < (n : Int)) = false := decide_eq_false (by omega)
  have d3 : decide ((i : Int) < 0) = false := decide_eq_false (by omega)
  obtain ⟨L1, hL1⟩ : ∃ L1, L1 = (xs.take p).map (Value.int .u8) := ⟨_, rfl⟩
  obtain ⟨L3, hL3⟩ : ∃ L3, L3 = (xs.drop p).map (Value.int .u8) := ⟨_, rfl⟩
  have l1 : L1.length = p * 1 := by rw [hL1, List.length_map, List.length_take]; have := HN.out; omega
  have l3 : L3.length = (n - p) * 1 := by rw [hL3, List.length_map, List.length_drop]; have := HN.out; omega
  have o1 : ∀ u ∈ L1, u.oneCell' = true := by rw [hL1]; exact ints_oneCell _ _
  have o3 : ∀ u ∈ L3, u.oneCell' = true := by rw [hL3]; exact ints_oneCell _ _
  have HL1 : Hid (L1 = (xs.take p).map (Value.int .u8) ∧ L1.length = p * 1 ∧ ∀ u ∈ L1, u.oneCell' = true) := ⟨hL1, l1, o1⟩
  have HL3 : Hid (L3 = (xs.drop p).map (Value.int .u8) ∧ L3.length = (n - p) * 1 ∧ ∀ u ∈ L3, u.oneCell' = true) := ⟨hL3, l3, o3⟩
  clear hL1 hL3 l1 l3 o1 o3
  go_enter Try.func4, Try.ntmps4
  go_wp2_with (first | (at_make; refine wpList_make_full _ rfl _ _ 22 rfl w.heap.size 5 i0 (.int .u8 0) 1 Try.underlying22 hi0 hz0 hz1 .i64 .i64 _ _ n rfl rfl rfl rfl (by rw [hz2]; omega) (by unfold maxLen; omega) (Nat.le_refl _) ?_; intro w1 hown1 hgrow1; obtain ⟨w2, hrun, hcell, hbel, hsz⟩ := copied w w1 x n cap xs _ HN.out HX.out hown1 hgrow1; have HC : Hid (∀ j, j < n → w2.cell? ⟨w.heap.size, j, none⟩ = some (.int .u8 (xs.getD j 0))) := hcell; clear hcell hown1) | (go_at_call 10; go_in))
  go_loop [10] (fun v => v = .int .i64 0) (fun v => 0)
  case atStart => rfl
  case round =>
      subst hrel
      have hrd : Rd w2 (some ⟨w.heap.size, 0, none⟩) xs := .inr ⟨w.heap.size, 0, rfl, fun j hj => by rw [Nat.zero_add]; exact HC.out j (by rw [← HN.out]; exact hj)⟩
      go_wp2_with fail
      refine (skip8i _ n n xs i HN.out (by omega) (by omega) (by omega) _ hrd).mono ?_
      rintro e w' ⟨r, rfl, hr, rfl⟩
      rw [Int.toNat_natCast] at hr
      go_wp2_with fail
      refine (lands9 _ n n xs i r HN.out (by omega) _ hrd hr).mono ?_
      rintro e w' ⟨rfl, rfl⟩
      have hrle : r ≤ n := by have := hr.hi; have := HN.out; omega
      have hw2 : w.heap.size < w2.heap.size := hsz
      by_cases hpn : p = n
      · subst hpn
        go_wp2_with (first | (at_make; refine wpList_make_own _ rfl _ _ 22 rfl w.heap.size 5 i0 (.int .u8 0) 1 Try.underlying22 hi0 hz0 hz1 .i64 .i64 _ p rfl rfl (by omega) (by rw [hz2]; omega) (by unfold maxLen; omega) (by omega) ?_; intro w3 hown3 hg3) | (at_builtin; refine wpList_append_fits_any _ rfl (.tmp 78) (.tmp 81) 22 rfl w.heap.size 5 i0 1 Try.underlying22 hi0 hz1 w2.heap.size 0 p [] rfl hown3 (some ⟨w.heap.size, 0, none⟩) p _ L1 rfl HL1.out.2.1 (by intro h; cases h) (src_cells (b := w.heap.size) (o := 0) (xs := xs.take p) (fun j hj => hg3.cell (by rw [List.length_take] at hj; rw [Nat.zero_add, Sk.getD_take xs p j (by omega)]; exact HC.out j (by omega)) (by simp)) HL1.out.1 (fun _ => rfl)) HL1.out.2.2 (by omega) ?_; intro w4 hown4 hg4; simp only [Nat.zero_add, List.nil_append] at hown4) | (at_builtin; refine wpList_append_fits_any _ rfl (.tmp 83) (.tmp 84) 22 rfl w.heap.size 5 i0 1 Try.underlying22 hi0 hz1 w2.heap.size p p L1 rfl hown4 a3 0 _ [] rfl rfl (fun h => ⟨rfl, H3.out h⟩) (fun ad _ j u hu => by simp at hu) (fun u hu => by simp at hu) (by omega) ?_; intro w5 hown5 hg5; simp only [Nat.add_zero, List.append_nil] at hown5))
        have hzs : (xs.take p ++ [] ++ xs.drop p).length = p := by
          have := HN.out; simp; omega
        have hrd2 : Rd w5 (some ⟨w2.heap.size, 0, none⟩) (xs.take p ++ [] ++ xs.drop p) := rd_of_owned hown5 (by rw [HL1.out.1, List.drop_eq_nil_of_le (show xs.length ≤ p by have := HN.out; omega)]; simp)
        have hbel2 : Below w.heap.size w w5 := ((hbel.grown hg3 (by omega) (fun k h => by cases h)).grown hg4 (by have := hg3.size; omega) (fun k h => by cases h; omega)).grown hg5 (by have := hg3.size; have := hg4.size; omega) (fun k h => by cases h; omega)
        refine (skip8i _ _ _ (xs.take p ++ [] ++ xs.drop p) i (by first | exact hzs | (rw [hzs]; omega)) (by omega) (by omega) (by omega) _ hrd2).mono ?_
        rintro e w' ⟨r2, rfl, hr2, rfl⟩
        rw [Int.toNat_natCast] at hr2
        by_cases hpr : p ≤ r
        · have he : r2 = r + 0 := hr2.uniq (Sk.ins_at (vs := []) (by have := HN.out; omega) hi hr (fun j hj => by simp at hj) hpr)
          have hb2 : (((r2 : Nat) : Int) == (r : Int)) = true := by rw [he]; simp
          clear he
          go_wp2
          go_ret
          exact ⟨rfl, hbel2⟩
        · have he : r2 = r := hr2.uniq (Sk.ins_past (vs := []) (by have := HN.out; omega) hr (by omega))
          have hb2 : (((r2 : Nat) : Int) == (r : Int)) = true := by rw [he]; simp
          clear he
          go_wp2
          go_ret
          exact ⟨rfl, hbel2⟩
      · have hpn' : p < n := by omega
        have hnp : (n = p) = False := by simp; omega
        clear hpn
        go_wp2_with (first | (at_make; refine wpList_make_own _ rfl _ _ 22 rfl w.heap.size 5 i0 (.int .u8 0) 1 Try.underlying22 hi0 hz0 hz1 .i64 .i64 _ n rfl rfl (by omega) (by rw [hz2]; omega) (by unfold maxLen; omega) (by omega) ?_; intro w3 hown3 hg3) | (at_builtin; refine wpList_append_fits_any _ rfl (.tmp 78) (.tmp 81) 22 rfl w.heap.size 5 i0 1 Try.underlying22 hi0 hz1 w2.heap.size 0 n [] rfl hown3 (some ⟨w.heap.size, 0, none⟩) p _ L1 rfl HL1.out.2.1 (by intro h; cases h) (src_cells (b := w.heap.size) (o := 0) (xs := xs.take p) (fun j hj => hg3.cell (by rw [List.length_take] at hj; rw [Nat.zero_add, Sk.getD_take xs p j (by omega)]; exact HC.out j (by omega)) (by simp)) HL1.out.1 (fun _ => rfl)) HL1.out.2.2 (by omega) ?_; intro w4 hown4 hg4; simp only [Nat.zero_add, List.nil_append] at hown4) | (at_builtin; refine wpList_append_fits_any _ rfl (.tmp 83) (.tmp 84) 22 rfl w.heap.size 5 i0 1 Try.underlying22 hi0 hz1 w2.heap.size p n L1 rfl hown4 a3 0 _ [] rfl rfl (fun h => ⟨rfl, H3.out h⟩) (fun ad _ j u hu => by simp at hu) (fun u hu => by simp at hu) (by omega) ?_; intro w5 hown5 hg5; simp only [Nat.add_zero, List.append_nil] at hown5) | (at_builtin; refine wpList_append_fits_any _ rfl (.tmp 86) (.tmp 89) 22 rfl w.heap.size 5 i0 1 Try.underlying22 hi0 hz1 w2.heap.size p n (L1) rfl hown5 (some ⟨w.heap.size, p, none⟩) (n - p) _ L3 rfl HL3.out.2.1 (by intro h; cases h) (src_cells (b := w.heap.size) (o := p) (xs := xs.drop p) (fun j hj => hg5.cell (hg4.cell (hg3.cell (by rw [List.length_drop] at hj; rw [Sk.getD_drop]; exact HC.out (p + j) (by have := HN.out; omega)) (by simp)) (by simp; omega)) (by simp; omega)) HL3.out.1 (fun _ => rfl)) HL3.out.2.2 (by omega) ?_; intro w6 hown6 hg6))
        have hzs : (xs.take p ++ [] ++ xs.drop p).length = n := by
          have := HN.out; simp; omega
        have hrd2 : Rd w6 (some ⟨w2.heap.size, 0, none⟩) (xs.take p ++ [] ++ xs.drop p) := rd_of_owned hown6 (by rw [HL1.out.1, HL3.out.1]; simp)
        have hbel2 : Below w.heap.size w w6 := (((hbel.grown hg3 (by omega) (fun k h => by cases h)).grown hg4 (by have := hg3.size; omega) (fun k h => by cases h; omega)).grown hg5 (by have := hg3.size; have := hg4.size; omega) (fun k h => by cases h; omega)).grown hg6 (by have := hg3.size; have := hg4.size; have := hg5.size; omega) (fun k h => by cases h; omega)
        refine (skip8i _ _ _ (xs.take p ++ [] ++ xs.drop p) i (by first | exact hzs | (rw [hzs]; omega)) (by omega) (by omega) (by omega) _ hrd2).mono ?_
        rintro e w' ⟨r2, rfl, hr2, rfl⟩
        rw [Int.toNat_natCast] at hr2
        by_cases hpr : p ≤ r
        · have he : r2 = r + 0 := hr2.uniq (Sk.ins_at (vs := []) (by have := HN.out; omega) hi hr (fun j hj => by simp at hj) hpr)
          have hb2 : (((r2 : Nat) : Int) == (r : Int)) = true := by rw [he]; simp
          clear he
          go_wp2
          go_ret
          exact ⟨rfl, hbel2⟩
        · have he : r2 = r := hr2.uniq (Sk.ins_past (vs := []) (by have := HN.out; omega) hr (by omega))
          have hb2 : (((r2 : Nat) : Int) == (r : Int)) = true := by rw [he]; simp
          clear he
          go_wp2
          go_ret
          exact ⟨rfl, hbel2⟩
theorem zz10 (a : Option Addr) (n cap : Nat) (i p : Int) (a3 : Option Addr) (m c3 : Nat) (h : n + m ≤ 1048576) (w : World) :
    Calls Try.prog 10 #[.slice a n cap, .int .i64 i, .int .i64 p, .slice a3 m c3] w fun e w' => e = .returned (.bool true) ∧ w = w' := by
  go_enter Try.func10, Try.ntmps10
  go_wp2
  go_ret
  exact ⟨rfl, rfl⟩

set_option maxHeartbeats 2000000 in
theorem law4N (b o m c3 : Nat) (vs : List Int) (hm : vs.length = m) (hlm : m ≤ 1048576) (w : World)
    (hv : ∀ j, j < m → w.cell? ⟨b, o + j, none⟩ = some (.int .u8 (vs.getD j 0))) :
    Calls Try.prog 4 #[.slice none 0 0, .int .i64 0, .int .i64 0, .slice (some ⟨b, o, none⟩) m c3] w fun e w' => e = .returned (.bool true) ∧ Below w.heap.size w w' := by
  obtain ⟨i0, hi0, hz0, hz1, hz2⟩ := info_parts info5
  have hnil := fun w => run_neq_slice_nil_any (P := Try.prog) w 22 5 none 0 0 0 0 Try.underlying22
  have HM : Hid (vs.length = m) := hm
  have HV : Hid (∀ j, j < m → w.cell? ⟨b, o + j, none⟩ = some (.int .u8 (vs.getD j 0))) := hv
  have hbw : 0 < m → b < w.heap.size := fun h0 => by
    have h := hv 0 h0
    exact World.block_lt_of_cell? w _ h
  clear hm hv
  have d2 : decide (1048576 < (m : Int)) = false := decide_eq_false (by omega)
  obtain ⟨L2, hL2⟩ : ∃ L2, L2 = vs.map (Value.int .u8) := ⟨_, rfl⟩
  have l2 : L2.length = m * 1 := by rw [hL2, List.length_map]; have := HM.out; omega
  have o2 : ∀ u ∈ L2, u.oneCell' = true := by rw [hL2]; exact ints_oneCell _ _
  have HL2 : Hid (L2 = vs.map (Value.int .u8) ∧ L2.length = m * 1 ∧ ∀ u ∈ L2, u.oneCell' = true) := ⟨hL2, l2, o2⟩
  clear hL2 l2 o2
  go_enter Try.func4, Try.ntmps4
  go_wp2_with fail
  refine (zz10 _ _ _ _ _ _ _ _ (by omega) _).mono ?_
  rintro e w' ⟨rfl, rfl⟩
  go_wp2
  go_loop [10] (fun v => ∃ k : Nat, k ≤ m ∧ v = .int .i64 k ∧ ∀ j, j < k → ws (vs.getD j 0) = true) (fun v => m - (intOf v).toNat)
  case atStart => exact ⟨0, Nat.zero_le _, rfl, fun j hj => absurd hj (by omega)⟩
  case round =>
    obtain ⟨k, hk, rfl, hall⟩ := hrel
    have HA : Hid (∀ j, j < k → ws (vs.getD j 0) = true) := hall
    clear hall
    by_cases hlt : k < m
    · obtain ⟨y, hy⟩ : ∃ y, y = vs.getD k 0 := ⟨_, rfl⟩
      have hc : w.cell? ⟨b, o + k, none⟩ = some (.int .u8 y) := by rw [hy]; exact HV.out k hlt
      have HY : Hid (y = vs.getD k 0) := hy
      clear hy
      by_cases hw : ws y = true
      · go_wp2_with fail
        refine (isws y _).mono ?_
        rintro e w' ⟨rfl, rfl⟩
        go_wp2
        go_round
        case rel => exact ⟨k + 1, by omega, by go_num, fun j hj => by
          by_cases h : j < k
          · exact HA.out j h
          · obtain rfl : j = k := by omega
            rw [← HY.out]; exact hw⟩
        case measure => simp [intOf]; omega
      · have hw' : ws y = false := Bool.eq_false_iff.2 hw
        clear hw
        go_wp2_with fail
        refine (isws y _).mono ?_
        rintro e w' ⟨rfl, rfl⟩
        go_wp2
        go_ret
        exact ⟨rfl, Below.refl _ _⟩
    · obtain rfl : k = m := by omega
      go_wp2_with fail
      refine (skip8i none 0 0 [] 0 rfl (by omega) (by omega) (by omega) _ (.inl rfl)).mono ?_
      rintro e w' ⟨r, rfl, hr, rfl⟩
      obtain rfl : r = 0 := hr.uniq skW.skip_nil
      go_wp2_with fail
      refine (lands9 none 0 0 [] 0 0 rfl (by omega) _ (.inl rfl) skW.skip_nil).mono ?_
      rintro e w' ⟨rfl, rfl⟩
      go_wp2_with (first | (at_make; refine wpList_make_own _ rfl _ _ 22 rfl w.heap.size 5 i0 (.int .u8 0) 1 Try.underlying22 hi0 hz0 hz1 .i64 .i64 _ k rfl rfl (by omega) (by rw [hz2]; omega) (by unfold maxLen; omega) (by omega) ?_; intro w3 hown3 hg3) | (at_builtin; refine wpList_append_fits_any _ rfl (.tmp 83) (.tmp 84) 22 rfl w.heap.size 5 i0 1 Try.underlying22 hi0 hz1 w.heap.size 0 k [] rfl hown3 (some ⟨b, o, none⟩) k _ L2 rfl HL2.out.2.1 (by intro h; cases h) (src_cells (b := b) (o := o) (xs := vs) (fun j hj => hg3.cell (HV.out j (by rw [← HM.out]; exact hj)) (by simp)) HL2.out.1 (fun _ => rfl)) HL2.out.2.2 (by omega) ?_; intro w5 hown5 hg5; simp only [Nat.zero_add, List.nil_append] at hown5))
      have hrd2 : Rd w5 (some ⟨w.heap.size, 0, none⟩) vs := rd_of_owned hown5 HL2.out.1
      have hbel2 : Below w.heap.size w w5 := ((Below.refl _ _).grown hg3 (Nat.le_refl _) (fun k h => by cases h)).grown hg5 (by have := hg3.size; omega) (fun k h => by cases h; omega)
      refine (skip8i _ _ _ vs 0 HM.out (by omega) (by omega) (by omega) _ hrd2).mono ?_
      rintro e w' ⟨r2, rfl, hr2, rfl⟩
      have hins := Sk.ins_at (xs := []) (vs := vs) (i := 0) (p := 0) (r := 0) (Nat.le_refl _) (Nat.le_refl _) skW.skip_nil (fun j hj => HA.out j (by have := HM.out; omega)) (Nat.le_refl _)
      simp only [List.take_nil, List.nil_append, List.drop_nil, List.append_nil] at hins
      have he : r2 = 0 + vs.length := hr2.uniq hins
      have hb2 : (((r2 : Nat) : Int) == (k : Int)) = true := by rw [he, HM.out]; simp
      clear he
      go_wp2
      go_ret
      exact ⟨rfl, hbel2⟩

set_option maxHeartbeats 2000000 in
theorem law4NE (a3 : Option Addr) (c3 : Nat) (h3 : a3 = none → c3 = 0) (w : World) :
    Calls Try.prog 4 #[.slice none 0 0, .int .i64 0, .int .i64 0, .slice a3 0 c3] w fun e w' => e = .returned (.bool true) ∧ Below w.heap.size w w' := by
  obtain ⟨i0, hi0, hz0, hz1, hz2⟩ := info_parts info5
  have hnil := fun w => run_neq_slice_nil_any (P := Try.prog) w 22 5 none 0 0 0 0 Try.underlying22
  have H3 : Hid (a3 = none → c3 = 0) := h3
  clear h3
  go_enter Try.func4, Try.ntmps4
  go_wp2_with fail
  refine (zz10 _ _ _ _ _ _ _ _ (by omega) _).mono ?_
  rintro e w' ⟨rfl, rfl⟩
  go_wp2
  go_loop [10] (fun v => v = .int .i64 0) (fun v => 0)
  case atStart => rfl
  case round =>
      subst hrel
      go_wp2_with fail
      refine (skip8i none 0 0 [] 0 rfl (by omega) (by omega) (by omega) _ (.inl rfl)).mono ?_
      rintro e w' ⟨r, rfl, hr, rfl⟩
      obtain rfl : r = 0 := hr.uniq skW.skip_nil
      go_wp2_with fail
      refine (lands9 none 0 0 [] 0 0 rfl (by omega) _ (.inl rfl) skW.skip_nil).mono ?_
      rintro e w' ⟨rfl, rfl⟩
      go_wp2_with (first | (at_make; refine wpList_make_own _ rfl _ _ 22 rfl w.heap.size 5 i0 (.int .u8 0) 1 Try.underlying22 hi0 hz0 hz1 .i64 .i64 _ 0 rfl rfl (by omega) (by rw [hz2]; omega) (by unfold maxLen; omega) (by omega) ?_; intro w3 hown3 hg3) | (at_builtin; refine wpList_append_fits_any _ rfl (.tmp 83) (.tmp 84) 22 rfl w.heap.size 5 i0 1 Try.underlying22 hi0 hz1 w.heap.size 0 0 [] rfl hown3 a3 0 _ [] rfl rfl (fun h => ⟨rfl, H3.out h⟩) (fun ad _ j u hu => by simp at hu) (fun u hu => by simp at hu) (by omega) ?_; intro w5 hown5 hg5))
      have hbel2 : Below w.heap.size w w5 := ((Below.refl _ _).grown hg3 (Nat.le_refl _) (fun k h => by cases h)).grown hg5 (by have := hg3.size; omega) (fun k h => by cases h; omega)
      refine (skip8i _ 0 _ [] 0 rfl (by omega) (by omega) (by omega) _ (.inl rfl)).mono ?_
      rintro e w' ⟨r2, rfl, hr2, rfl⟩
      obtain rfl : r2 = 0 := hr2.uniq skW.skip_nil
      go_wp2
      go_ret
      exact ⟨rfl, hbel2⟩

set_option maxHeartbeats 1000000 in
theorem law4out (a : Option Addr) (n cap : Nat) (i p : Int) (a3 : Option Addr) (m c3 : Nat) (hn : n ≤ maxLen) (hm : m ≤ maxLen) (w : World) (h : 1048576 < n + m ∨ i < 0 ∨ n < i ∨ p < i ∨ n < p) :
    Calls Try.prog 4 #[.slice a n cap, .int .i64 i, .int .i64 p, .slice a3 m c3] w fun e w' => e = .returned (.bool true) ∧ w = w' := by
  unfold maxLen at hn hm
  by_cases h1 : 1048576 < (n : Int)
  · go_enter Try.func4, Try.ntmps4
    go_wp2
    go_ret
    exact ⟨rfl, rfl⟩
  by_cases h1b : 1048576 < (m : Int)
  · go_enter Try.func4, Try.ntmps4
    go_wp2
    go_ret
    exact ⟨rfl, rfl⟩
  by_cases h1c : 1048576 < (n : Int) + (m : Int)
  · go_enter Try.func4, Try.ntmps4
    go_wp2
    go_ret
    exact ⟨rfl, rfl⟩
  by_cases h2 : i < 0
  · go_enter Try.func4, Try.ntmps4
    go_wp2
    go_ret
    exact ⟨rfl, rfl⟩
  by_cases h3 : (n : Int) < i
  · go_enter Try.func4, Try.ntmps4
    go_wp2
    go_ret
    exact ⟨rfl, rfl⟩
  by_cases h4 : p < i
  · go_enter Try.func4, Try.ntmps4
    go_wp2
    go_ret
    exact ⟨rfl, rfl⟩
  have h5 : (n : Int) < p := by omega
  clear h
  go_enter Try.func4, Try.ntmps4
  go_wp2
  go_ret
  exact ⟨rfl, rfl⟩
end Go.Proofs.Qxb6608652a.skI
