import Derived.Test.Qxb6608652aSkW
import Derived.Laws.CopyOwn
import Derived.WalkSpells
namespace Go.Proofs.Qxb6608652a.skL
open Go.RowKit
open Go.Proofs.Qxb6608652a.Sk (ws IsSkip)
open Go.Proofs.Qxb6608652a.skW (Rd skip8 lands9)
set_option linter.unusedVariables false

theorem info5 : (Try.prog.info? 5).map (fun i => (i.zero, i.size, i.bytes)) = some (some (.int .u8 0), 1, 1) := by kernel_rfl
theorem size5 : (Try.prog.info? 5).map (fun i => i.size) = some 1 := by kernel_rfl

theorem copied (w w1 : World) (x : Addr) (n cap : Nat) (xs : List Int) (Z : List Value) (hn : xs.length = n) (hx : ∀ j, j < n → w.cell? (x.add j) = some (.int .u8 (xs.getD j 0)))
    (hown : w1.ownsRow w.heap.size 5 1 (.slice (some ⟨w.heap.size, 0, none⟩) n n) n Z) (hg : w.grownBy w1 none) :
    ∃ w2, (Builtin.copy_ #[22, 22] 3 #[.slice (some ⟨w.heap.size, 0, none⟩) n n, .slice (some x) n cap]).run Try.prog w1 = .ok (.int .i64 n) w2 ∧
      (∀ j, j < n → w2.cell? ⟨w.heap.size, j, none⟩ = some (.int .u8 (xs.getD j 0))) ∧ Below w.heap.size w w2 ∧ w.heap.size < w2.heap.size := by
  obtain ⟨_, ⟨h, _⟩ | ⟨g, cp, cur, h, _, hh, hle, _, hsz, _⟩⟩ := hown
  · simp at h
  · simp only [Value.slice.injEq, Option.some.injEq, Addr.mk.injEq] at h
    obtain ⟨⟨rfl, _⟩, _, rfl⟩ := h
    have hrun := run_copy_row Try.prog w1 22 22 3 5 w.heap.size 0 n n x n cap cur 5 (xs.map (Value.int .u8)) Try.underlying22 size5 hh (by simp [hn])
      (fun j v hv => by
        have hj : j < xs.length := by
          have := (List.getElem?_eq_some_iff.1 hv).1
          simpa using this
        have e : v = .int .u8 (xs.getD j 0) := by
          rw [List.getElem?_map, List.getElem?_eq_getElem hj] at hv
          simp only [Option.map_some, Option.some.injEq] at hv
          rw [← hv, List.getD_eq_getElem?_getD, List.getElem?_eq_getElem hj]; rfl
        rw [e]
        exact hg.cell (hx j (by omega)) (by simp))
      (by simp [hn, hsz]) (ints_oneCell _ _)
    have hcells : (List.take 0 cur.toList ++ xs.map (Value.int .u8) ++ List.drop (0 + (xs.map (Value.int .u8)).length) cur.toList).toArray = (xs.map (Value.int .u8)).toArray := by
      simp [List.drop_eq_nil_of_le, hn, hsz]
    rw [hcells] at hrun
    refine ⟨w1.setRow w.heap.size (xs.map (Value.int .u8)).toArray, ?_, ?_, below_setRow ⟨hg.os, hg.tape, hg.output, hg.size, fun k hk => hg.block k hk (by simp)⟩ (Nat.le_refl _) _, ?_⟩
    · rw [hrun]; simp [goInt, hn]
    · intro j hj
      rw [cell_setRow_same w1 _ j cur _ 5 (0, 0) hh]
      simp [List.getD, hn, hj]
    · rw [size_setRow]; exact (Array.getElem?_eq_some_iff.1 hh).1

theorem skip8i (a : Option Addr) (n cap : Nat) (xs : List Int) (i : Int) (hn : xs.length = n) (hl : n ≤ 2097152) (h0 : 0 ≤ i) (hi : i ≤ n) (w : World) (hr : Rd w a xs) :
    Calls Try.prog 8 #[.slice a n cap, .int .i64 i] w fun e w' => ∃ r : Nat, e = .returned (.int .i64 r) ∧ IsSkip xs i.toNat r ∧ w = w' := by
  obtain ⟨k, rfl⟩ := Int.eq_ofNat_of_zero_le h0
  rw [Int.toNat_natCast]
  exact skip8 a n cap xs k hn hl (by omega) w hr

set_option maxHeartbeats 1000000 in
theorem law3 (x : Addr) (n cap : Nat) (xs : List Int) (i c : Nat) (hn : xs.length = n) (hl : n ≤ 1048576) (hi : i ≤ n) (hc : c ≤ n) (w : World)
    (hx : ∀ j, j < n → w.cell? (x.add j) = some (.int .u8 (xs.getD j 0))) :
    Calls Try.prog 3 #[.slice (some x) n cap, .int .i64 i, .int .i64 c] w fun e w' => e = .returned (.bool true) ∧ Below w.heap.size w w' := by
  obtain ⟨i0, hi0, hz0, hz1, hz2⟩ := info_parts info5
  have hnil := fun w => run_neq_slice_nil_any (P := Try.prog) w 22 5 (some x) n cap 0 0 Try.underlying22
  have HN : Hid (xs.length = n) := hn
  have HX : Hid (∀ j, j < n → w.cell? (x.add j) = some (.int .u8 (xs.getD j 0))) := hx
  clear hn hx
  go_enter Try.func3, Try.ntmps3
  go_wp2_with (first | (at_make; refine wpList_make_full _ rfl _ _ 22 rfl w.heap.size 5 i0 (.int .u8 0) 1 Try.underlying22 hi0 hz0 hz1 .i64 .i64 _ _ n rfl rfl rfl rfl (by rw [hz2]; omega) (by unfold maxLen; omega) (Nat.le_refl _) ?_; intro w1 hown1 hgrow1; obtain ⟨w2, hrun, hcell, hbel, hsz⟩ := copied w w1 x n cap xs _ HN.out HX.out hown1 hgrow1; have HC : Hid (∀ j, j < n → w2.cell? ⟨w.heap.size, j, none⟩ = some (.int .u8 (xs.getD j 0))) := hcell; clear hcell hown1) | (go_at_call 7; go_in))
  have hrd : Rd w2 (some ⟨w.heap.size, 0, none⟩) xs := .inr ⟨w.heap.size, 0, rfl, fun j hj => by rw [Nat.zero_add]; exact HC.out j (by rw [← HN.out]; exact hj)⟩
  have hrdl : Rd w2 (some ⟨w.heap.size, 0, none⟩) (xs.take c) := .inr ⟨w.heap.size, 0, rfl, fun j hj => by
    have hj' : j < c := by rw [List.length_take] at hj; omega
    rw [Nat.zero_add, Sk.getD_take xs c j hj']; exact HC.out j (by omega)⟩
  have hrdr : ∀ ao : Option Addr, (¬ c = n → ao = some ⟨w.heap.size, c, none⟩) → Rd w2 ao (xs.drop c) := fun ao hao => by
    by_cases hcn : c = n
    · exact .inl (List.drop_eq_nil_of_le (by have := HN.out; omega))
    · exact .inr ⟨w.heap.size, c, hao hcn, fun j hj => by
        rw [Sk.getD_drop]; exact HC.out (c + j) (by rw [List.length_drop] at hj; have := HN.out; omega)⟩
  refine (skip8 _ n n xs i HN.out (by omega) hi _ hrd).mono ?_
  rintro e w' ⟨r, rfl, hr, rfl⟩
  go_wp2_with fail
  refine (lands9 _ n n xs i r HN.out (by omega) _ hrd hr).mono ?_
  rintro e w' ⟨rfl, rfl⟩
  have hrle : r ≤ n := by have := hr.hi; have := HN.out; omega
  by_cases hic : i ≤ c
  · go_wp2_with fail
    all_goals
      refine (skip8i _ _ _ (xs.take c) i (by rw [List.length_take]; have := HN.out; omega) (by omega) (by omega) (by omega) _ hrdl).mono ?_
      rintro e w' ⟨r1, rfl, hr1, rfl⟩
      rw [Int.toNat_natCast] at hr1
      have hr1c : r1 ≤ c := by have := hr1.hi; rw [List.length_take] at this; omega
      by_cases hlt : r1 < c
      · have he : r = r1 := hr.uniq (Sk.cut_left (by have := HN.out; omega) hr1 hlt)
        have hb : (((r : Nat) : Int) == ((r1 : Nat) : Int)) = true := by rw [he]; simp
        clear he
        go_wp2
        go_ret
        exact ⟨rfl, hbel⟩
      · go_wp2_with fail
        refine (skip8i _ _ _ (xs.drop c) 0 (by rw [List.length_drop]; have := HN.out; omega) (by omega) (by omega) (by omega) _ (hrdr _ (by intro h; first | rfl | (exfalso; omega)))).mono ?_
        rintro e w' ⟨r2, rfl, hr2, rfl⟩
        have he : r = c + r2 := hr.uniq (Sk.cut_on (by have := HN.out; omega) hr1 (by omega) hr2)
        have hr2n : r2 ≤ 1048576 := by omega
        have hb : (((r : Nat) : Int) == (c : Int) + (r2 : Int)) = true := by rw [he]; simp
        clear he
        go_wp2
        go_ret
        exact ⟨rfl, hbel⟩
  · go_wp2_with fail
    all_goals
      refine (skip8i _ _ _ (xs.drop c) ((i : Int) - (c : Int)) (by rw [List.length_drop]; have := HN.out; omega) (by omega) (by omega) (by omega) _ (hrdr _ (by intro h; first | rfl | (exfalso; omega)))).mono ?_
      rintro e w' ⟨r2, rfl, hr2, rfl⟩
      rw [show ((i : Int) - (c : Int)).toNat = i - c by omega] at hr2
      have he : r = c + r2 := hr.uniq (Sk.cut_right (by have := HN.out; omega) (by omega) hr2)
      have hr2n : r2 ≤ 1048576 := by omega
      have hb : (((r : Nat) : Int) == (c : Int) + (r2 : Int)) = true := by rw [he]; simp
      clear he
      go_wp2
      go_ret
      exact ⟨rfl, hbel⟩

set_option maxHeartbeats 1000000 in
theorem law3nil (w : World) :
    Calls Try.prog 3 #[.slice none 0 0, .int .i64 0, .int .i64 0] w fun e w' => e = .returned (.bool true) ∧ w = w' := by
  have hnil := fun w => run_neq_slice_nil_any (P := Try.prog) w 22 5 none 0 0 0 0 Try.underlying22
  go_enter Try.func3, Try.ntmps3
  go_wp2_with (go_at_call 7; go_in)
  refine (skip8i none 0 0 [] 0 rfl (by omega) (by omega) (by omega) _ (.inl rfl)).mono ?_
  rintro e w' ⟨r, rfl, hr, rfl⟩
  obtain rfl : r = 0 := hr.uniq skW.skip_nil
  go_wp2_with fail
  refine (lands9 none 0 0 [] 0 0 rfl (by omega) _ (.inl rfl) skW.skip_nil).mono ?_
  rintro e w' ⟨rfl, rfl⟩
  go_wp2_with fail
  refine (skip8i _ 0 0 [] 0 rfl (by omega) (by omega) (by omega) _ (.inl rfl)).mono ?_
  rintro e w' ⟨r, rfl, hr, rfl⟩
  obtain rfl : r = 0 := hr.uniq skW.skip_nil
  go_wp2_with fail
  refine (skip8i _ 0 0 [] 0 rfl (by omega) (by omega) (by omega) _ (.inl rfl)).mono ?_
  rintro e w' ⟨r, rfl, hr, rfl⟩
  obtain rfl : r = 0 := hr.uniq skW.skip_nil
  go_wp2
  go_ret
  exact ⟨rfl, rfl⟩

set_option maxHeartbeats 1000000 in
theorem law3out (a : Option Addr) (n cap : Nat) (i c : Int) (hn : n ≤ maxLen) (w : World) (h : 1048576 < n ∨ i < 0 ∨ n < i ∨ c < 0 ∨ n < c) :
    Calls Try.prog 3 #[.slice a n cap, .int .i64 i, .int .i64 c] w fun e w' => e = .returned (.bool true) ∧ w = w' := by
  unfold maxLen at hn
  by_cases h1 : 1048576 < (n : Int)
  · go_enter Try.func3, Try.ntmps3
    go_wp2
    go_ret
    exact ⟨rfl, rfl⟩
  by_cases h2 : i < 0
  · go_enter Try.func3, Try.ntmps3
    go_wp2
    go_ret
    exact ⟨rfl, rfl⟩
  by_cases h3 : (n : Int) < i
  · go_enter Try.func3, Try.ntmps3
    go_wp2
    go_ret
    exact ⟨rfl, rfl⟩
  by_cases h4 : c < 0
  · go_enter Try.func3, Try.ntmps3
    go_wp2
    go_ret
    exact ⟨rfl, rfl⟩
  have h5 : (n : Int) < c := by omega
  clear h
  go_enter Try.func3, Try.ntmps3
  go_wp2
  go_ret
  exact ⟨rfl, rfl⟩
end Go.Proofs.Qxb6608652a.skL
