/- THE WALK of 'ids' once more: where nothing is taken the answer is nil. -/
import Derived.Test.Qxb6608623aQmI
namespace Go.Proofs.Qxb6608623a.qmU
open Go.RowKit
open Go.Proofs.Qxb6608623a.Qm
open Go.Proofs.Qxb6608623a.qmW
open Go.Proofs.Qxb6608623a.qmS
open Go.Proofs.Qxb6608623a.qmI
set_option linter.unusedVariables false

set_option maxRecDepth 100000 in
set_option maxHeartbeats 4000000 in
/-- the ids of the voters in the subset at a mask; nothing taken: nil -/
theorem ids55b (b o n cap : Nat) (x1 x2 : Value) (vs : List Vt) (m : List Bool) (hvs : vs.length = n) (hm : m.length = n) (hn : n ≤ 17) (w : World) (hb : b < w.heap.size)
    (hcell : ∀ i v, vs[i]? = some v → VtAt w b o i v) :
    Calls Try.prog 55 #[.agg #[.slice (some ⟨b, o, none⟩) n cap, x1, x2], .int .u64 (val m : Nat)] w
      fun e w' => ∃ r, e = .returned r ∧ (sel vs m = [] → r = .slice none 0 0) ∧ w'.ownsRow w.heap.size 9 1 r (sel vs m).length (idCells (sel vs m)) ∧ Below w.heap.size w w' := by
  obtain ⟨i9, hi9, hz90, hz91, hz92⟩ := info_parts info9
  have HC : Hid (∀ i v, vs[i]? = some v → VtAt w b o i v) := hcell
  have HV : Hid (vs.length = n) := hvs
  have HL : Hid (m.length = n) := hm
  have hval : val m < 131072 := (ones_cnt m (by omega)).2
  clear hcell hvs hm
  have HB0 : Hid (Below w.heap.size w (w.alloc (.cells #[.slice (some ⟨b, o, none⟩) n cap, x1, x2] 97))) := (Below.refl _ _).alloc (Nat.le_refl _) _
  have HH0 : Hid ((w.alloc (.cells #[.slice (some ⟨b, o, none⟩) n cap, x1, x2] 97)).heap[w.heap.size]? = some (.cells #[.slice (some ⟨b, o, none⟩) n cap, x1, x2] 97 (0, 0))) := heap_alloc_new w _
  go_enter Try.func55, Try.ntmps55
  go_wp2
  go_loopw [5, 11] (fun v i wr => ∃ k : Nat, k ≤ n ∧ i = .int .i64 k ∧ wr.ownsRow (w.heap.size + 1) 9 1 v (sel (vs.take k) (m.take k)).length (idCells (sel (vs.take k) (m.take k))) ∧ wr.heap[w.heap.size]? = some (.cells #[.slice (some ⟨b, o, none⟩) n cap, x1, x2] 97 (0, 0)) ∧ Below w.heap.size w wr ∧ w.heap.size < wr.heap.size ∧ (sel (vs.take k) (m.take k) = [] → v = .slice none 0 0)) (fun _ i _ => n - (intOf i).toNat)
  case atStart => exact ⟨0, Nat.zero_le _, rfl, ⟨by simp [sel, idCells], .inl ⟨rfl, rfl⟩⟩, HH0.out, HB0.out, by simp, fun _ => rfl⟩
  case round =>
    obtain ⟨k, hk, rfl, hown, hblk, hbel, hsz, hnil⟩ := hrel
    clear HB0 HH0
    obtain ⟨ao, cp, rfl⟩ := own_form hown
    have HNI : Hid (sel (vs.take k) (m.take k) = [] → Value.slice ao (sel (vs.take k) (m.take k)).length cp = .slice none 0 0) := hnil
    clear hnil
    have c0 : wr.cell? ⟨w.heap.size, 0, none⟩ = some (.slice (some ⟨b, o, none⟩) n cap) := by simp [World.cell?, hblk]
    have HBK : Hid (wr.heap[w.heap.size]? = some (.cells #[.slice (some ⟨b, o, none⟩) n cap, x1, x2] 97 (0, 0))) := hblk
    clear hblk
    by_cases hlt : k < n
    · obtain ⟨v, hv⟩ : ∃ v, vs[k]? = some v := ⟨_, List.getElem?_eq_getElem (by rw [HV.out]; exact hlt)⟩
      obtain ⟨bt, hbt⟩ : ∃ bt, m[k]? = some bt := ⟨_, List.getElem?_eq_getElem (by rw [HL.out]; exact hlt)⟩
      obtain ⟨d0, d1, d2⟩ := (HC.out k v hv).below hbel hb
      have hbit := val_bit m k bt hbt
      have HSN : Hid (sel (vs.take (k + 1)) (m.take (k + 1)) = sel (vs.take k) (m.take k) ++ (if bt then [v] else [])) := sel_take (by rw [HL.out, HV.out]) hv hbt
      have hlen : (sel (vs.take k) (m.take k)).length ≤ 17 := by
        rw [sel_length _ _ (by rw [List.length_take, List.length_take, HL.out, HV.out])]
        exact Nat.le_trans (cnt_take_le m k) (by omega)
      rw [HL.out] at hbit
      obtain ⟨j, hj⟩ : ∃ j, j = n - 1 - k := ⟨_, rfl⟩
      rw [← hj] at hbit
      have e1 : (n : Int) - 1 - (k : Int) = (j : Int) := by omega
      clear hj hv hbt
      obtain ⟨q, hq⟩ : ∃ q, q = val m / 2 ^ j := ⟨_, rfl⟩
      have hq2 : ((val m : Nat) : Int) / 2 ^ j = (q : Int) := by rw [hq]; push_cast; rfl
      have hqb : q ≤ 131072 := by rw [hq]; exact Nat.le_trans (Nat.div_le_self _ _) (by omega)
      rw [← hq] at hbit
      have e3 : bits .and .u64 (q : Int) 1 = ((q % 2 : Nat) : Int) := by
        have := bits_and_u64_nat q 1 (by omega) (by omega)
        rw [Nat.and_one_is_mod] at this
        exact this
      clear hq
      generalize hL : sel (vs.take k) (m.take k) = L at *
      cases bt with
      | true =>
        rw [hbit] at e3
        simp only [if_true] at e3
        go_wp2_with (first | (at_builtin; refine wpList_append_lies _ rfl (.tmp 26) (.tmp 29) 30 rfl (w.heap.size + 1) 9 i9 (.string ⟨#[]⟩) 1 16 Try.underlying30 hi9 hz90 hz91 hz92 rfl (by decide) (.slice ao L.length cp) L.length (idCells L) rfl (own_alloc (own_alloc hown _) _) ⟨wr.heap.size + 1, 0, none⟩ 1 1 [.string v.id] rfl rfl (World.news_of_block (cs := #[.string v.id]) (t := 9) (fr := (0, 0)) (new2 wr _ _)) (by simp [Value.oneCell']) (by omega) (by unfold maxLen; omega) (by omega) (by simp; omega) (wr.heap.size + 2) (by simp) ?_; intro g2 cap2 w2 hown2 hgrow2 hat2 hlt2) | fail)
        go_roundw
        case rel =>
          have hA := own_alloc (own_alloc hown (.cells #[.string v.id, .int .u64 v.w, .int .u64 v.c] 86)) (.cells #[.string v.id] 9)
          have hb2 := grown_below hgrow2 (B := w.heap.size + 1) (by simp; omega) (own_ge hA)
          have hb1 : Below (w.heap.size + 1) wr ((wr.alloc (.cells #[.string v.id, .int .u64 v.w, .int .u64 v.c] 86)).alloc (.cells #[.string v.id] 9)) := ((Below.refl _ _).alloc (by omega) _).alloc (by simp; omega) _
          have hb3 := hb1.trans hb2
          refine ⟨k + 1, by omega, by go_num, ?_, ?_, hbel.trans (hb3.mono (by omega)), Nat.lt_of_lt_of_le hsz hb3.size, fun h => by rw [HSN.out] at h; simp at h⟩
          · rw [HSN.out]
            simpa [idCells] using hown2
          · rw [hb3.block _ (by omega)]
            exact HBK.out
        case measure => simp [intOf]; omega
      | false =>
        rw [hbit] at e3
        simp only [Bool.false_eq_true, if_false] at e3
        go_wp2
        go_roundw
        case rel =>
          refine ⟨k + 1, by omega, by go_num, ?_, ?_, hbel.trans ((Below.refl _ _).alloc (by omega) _), by simp; omega, fun h => by rw [HSN.out] at h; simp at h; exact HNI.out h⟩
          · rw [HSN.out]
            simpa using own_alloc hown _
          · rw [Below.heap_alloc _ _ _ (by omega)]
            exact HBK.out
        case measure => simp [intOf]; omega
    · obtain rfl : k = n := by omega
      have HT : Hid (vs.take k = vs ∧ m.take k = m) := ⟨List.take_of_length_le (by rw [HV.out]; exact Nat.le_refl _), List.take_of_length_le (by rw [HL.out]; exact Nat.le_refl _)⟩
      go_wp2
      go_ret
      rw [HT.out.1, HT.out.2] at hown
      refine ⟨_, rfl, ?_, ?_, hbel⟩
      · have h1 := HNI.out
        rw [HT.out.1, HT.out.2] at h1 ⊢
        exact h1
      · rw [HT.out.1, HT.out.2]
        exact own_less hown (by omega)
end Go.Proofs.Qxb6608623a.qmU
