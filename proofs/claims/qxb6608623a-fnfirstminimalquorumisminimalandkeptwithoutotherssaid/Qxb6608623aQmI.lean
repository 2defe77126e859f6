/- THE WALK of 'ids'; what is said of rows of voters and of own rows. -/
import Derived.Test.Qxb6608623aQmS
namespace Go.Proofs.Qxb6608623a.qmI
open Go.RowKit
open Go.Proofs.Qxb6608623a.Qm
open Go.Proofs.Qxb6608623a.qmW
open Go.Proofs.Qxb6608623a.qmS
set_option linter.unusedVariables false

/-- the cells of voter i of the row at (b, o) -/
def VtAt (w : World) (b o i : Nat) (v : Vt) : Prop :=
  w.cell? ⟨b, o + i * 3, none⟩ = some (.string v.id) ∧ w.cell? ⟨b, o + i * 3 + 1, none⟩ = some (.int .u64 v.w) ∧ w.cell? ⟨b, o + i * 3 + 2, none⟩ = some (.int .u64 v.c)
theorem VtAt.below {w w' : World} {B b o i : Nat} {v : Vt} (h : VtAt w b o i v) (hb : Below B w w') (hl : b < B) : VtAt w' b o i v :=
  ⟨(hb.cell (by exact hl)).trans h.1, (hb.cell (by exact hl)).trans h.2.1, (hb.cell (by exact hl)).trans h.2.2⟩

theorem info9 : (Try.prog.info? 9).map (fun i => (i.zero, i.size, i.bytes)) = some (some (.string ⟨#[]⟩), 1, 16) := by kernel_rfl

def idCells (vs : List Vt) : List Value := vs.map fun v => .string v.id

theorem sel_take {vs : List Vt} {m : List Bool} (hl : m.length = vs.length) {k : Nat} {v : Vt} {b : Bool} (hv : vs[k]? = some v) (hb : m[k]? = some b) :
    sel (vs.take (k + 1)) (m.take (k + 1)) = sel (vs.take k) (m.take k) ++ (if b then [v] else []) := by
  have h1 := (List.getElem?_eq_some_iff.1 hv).1
  have h2 := (List.getElem?_eq_some_iff.1 hb).1
  rw [List.take_add_one, List.take_add_one, hv, hb, sel_append _ _ _ _ (by simp; omega)]
  cases b <;> simp [sel]
theorem cnt_take_le (m : List Bool) (k : Nat) : cnt (m.take k) ≤ k := Nat.le_trans (cnt_le _) (by simp; omega)

theorem grown_below {B : Nat} {w w' : World} {row : Option Nat} (h : w.grownBy w' row) (hB : B ≤ w.heap.size) (hr : ∀ k, row = some k → B ≤ k) : Below B w w' :=
  ⟨h.os, h.tape, h.output, h.size, fun k hk => h.block k (by omega) (fun e => by have := hr k e.symm; omega)⟩
theorem own_ge {w : World} {B : Nat} {e : TypeId} {size n : Nat} {v : Value} {xs : List Value} (h : w.ownsRow B e size v n xs) : ∀ k, v.ownBlock = some k → B ≤ k := by
  intro k hk
  rcases h.2 with ⟨rfl, _⟩ | ⟨g, cap, cur, rfl, hb, hg, _⟩
  · simp [Value.ownBlock] at hk
  · simp [Value.ownBlock] at hk
    subst hk
    exact hb
theorem own_form {w : World} {B : Nat} {e : TypeId} {size n : Nat} {v : Value} {xs : List Value} (h : w.ownsRow B e size v n xs) : ∃ ao cap, v = .slice ao n cap := by
  rcases h.2 with ⟨rfl, rfl⟩ | ⟨g, cap, cur, rfl, _⟩
  · exact ⟨_, _, rfl⟩
  · exact ⟨_, _, rfl⟩
theorem own_congr {w w' : World} {B : Nat} {e : TypeId} {size n : Nat} {v : Value} {xs : List Value} (h : w.ownsRow B e size v n xs) (hb : ∀ k, v.ownBlock = some k → w'.heap[k]? = w.heap[k]?) : w'.ownsRow B e size v n xs := by
  refine ⟨h.1, ?_⟩
  rcases h.2 with hn | ⟨g, cap, cur, rfl, hB, hg, r⟩
  · exact .inl hn
  · exact .inr ⟨g, cap, cur, rfl, hB, by rw [hb g rfl]; exact hg, r⟩
theorem own_block {w : World} {B : Nat} {e : TypeId} {size n : Nat} {v : Value} {xs : List Value} (h : w.ownsRow B e size v n xs) {k : Nat} (hk : v.ownBlock = some k) : ∃ cur, w.heap[k]? = some (.cells cur e (0, 0)) := by
  rcases h.2 with ⟨rfl, _⟩ | ⟨g, cap, cur, rfl, hb, hg, _⟩
  · simp [Value.ownBlock] at hk
  · simp [Value.ownBlock] at hk
    subst hk
    exact ⟨cur, hg⟩
theorem lt_of_some {w : World} {b : Nat} {o : Obj} (h : w.heap[b]? = some o) : b < w.heap.size := (Array.getElem?_eq_some_iff.1 h).1
theorem own_alloc {w : World} {B : Nat} {e : TypeId} {size n : Nat} {v : Value} {xs : List Value} (h : w.ownsRow B e size v n xs) (o : Obj) : (w.alloc o).ownsRow B e size v n xs :=
  own_congr h (fun k hk => by
    obtain ⟨cur, hc⟩ := own_block h hk
    exact Below.heap_alloc _ _ _ (lt_of_some hc))

theorem own_less {w : World} {B B' : Nat} {e : TypeId} {size n : Nat} {v : Value} {xs : List Value} (h : w.ownsRow B e size v n xs) (hB : B' ≤ B) : w.ownsRow B' e size v n xs := by
  refine ⟨h.1, ?_⟩
  rcases h.2 with hn | ⟨g, cap, cur, rfl, hb, r⟩
  · exact .inl hn
  · exact .inr ⟨g, cap, cur, rfl, Nat.le_trans hB hb, r⟩
theorem new2 (w : World) (o p : Obj) : ((w.alloc o).alloc p).heap[w.heap.size + 1]? = some p := by
  have := heap_alloc_new (w.alloc o) p
  simpa using this

set_option maxRecDepth 100000 in
set_option maxHeartbeats 4000000 in
/-- the ids of the voters in the subset at a mask -/
theorem ids55 (b o n cap : Nat) (x1 x2 : Value) (vs : List Vt) (m : List Bool) (hvs : vs.length = n) (hm : m.length = n) (hn : n ≤ 17) (w : World) (hb : b < w.heap.size)
    (hcell : ∀ i v, vs[i]? = some v → VtAt w b o i v) :
    Calls Try.prog 55 #[.agg #[.slice (some ⟨b, o, none⟩) n cap, x1, x2], .int .u64 (val m : Nat)] w
      fun e w' => ∃ r, e = .returned r ∧ w'.ownsRow w.heap.size 9 1 r (sel vs m).length (idCells (sel vs m)) ∧ Below w.heap.size w w' := by
  obtain ⟨i9, hi9, hz90, hz91, hz92⟩ := info_parts info9
  have HC : Hid (∀ i v, vs[i]? = some v → VtAt w b o i v) := hcell
  have HV : Hid (vs.length = n) := hvs
  have HL : Hid (m.length = n) := hm
  have hval : val m < 131072 := (ones_cnt m (by omega)).2
  clear hcell hvs hm
  have HB0 : Hid (Below w.heap.size w (w.alloc (.cells #[.slice (some ⟨b, o, none⟩) n cap, x1, x2] 97))) := (Below.refl _ _).alloc (Nat.le_refl _) _
  have HH0 : Hid ((w.alloc (.cells #[.slice (some ⟨b, o, none⟩) n cap, x1, x2] 97)).heap[w.heap.size]? = some (.cells #[.slice (some ⟨b, o, none⟩) n cap, x1, x2] 97 (0, 0))) := heap_alloc_new w _
  go_enter Try.func55, Try.ntmps55
  go_wp2
  go_loopw [5, 11] (fun v i wr => ∃ k : Nat, k ≤ n ∧ i = .int .i64 k ∧ wr.ownsRow (w.heap.size + 1) 9 1 v (sel (vs.take k) (m.take k)).length (idCells (sel (vs.take k) (m.take k))) ∧ wr.heap[w.heap.size]? = some (.cells #[.slice (some ⟨b, o, none⟩) n cap, x1, x2] 97 (0, 0)) ∧ Below w.heap.size w wr ∧ w.heap.size < wr.heap.size) (fun _ i _ => n - (intOf i).toNat)
  case atStart => exact ⟨0, Nat.zero_le _, rfl, ⟨by simp [sel, idCells], .inl ⟨rfl, rfl⟩⟩, HH0.out, HB0.out, by simp⟩
  case round =>
    obtain ⟨k, hk, rfl, hown, hblk, hbel, hsz⟩ := hrel
    clear HB0 HH0
    obtain ⟨ao, cp, rfl⟩ := own_form hown
    have c0 : wr.cell? ⟨w.heap.size, 0, none⟩ = some (.slice (some ⟨b, o, none⟩) n cap) := by simp [World.cell?, hblk]
    have HBK : Hid (wr.heap[w.heap.size]? = some (.cells #[.slice (some ⟨b, o, none⟩) n cap, x1, x2] 97 (0, 0))) := hblk
    clear hblk
    by_cases hlt : k < n
    · obtain ⟨v, hv⟩ : ∃ v, vs[k]? = some v := ⟨_, List.getElem?_eq_getElem (by rw [HV.out]; exact hlt)⟩
      obtain ⟨bt, hbt⟩ : ∃ bt, m[k]? = some bt := ⟨_, List.getElem?_eq_getElem (by rw [HL.out]; exact hlt)⟩
      obtain ⟨d0, d1, d2⟩ := (HC.out k v hv).below hbel hb
      have hbit := val_bit m k bt hbt
      have HSN : Hid (sel (vs.take (k + 1)) (m.take (k + 1)) = sel (vs.take k) (m.take k) ++ (if bt then [v] else [])) := sel_take (by rw [HL.out, HV.out]) hv hbt
      have hlen : (sel (vs.take k) (m.take k)).length ≤ 17 := by
        rw [sel_length _ _ (by rw [List.length_take, List.length_take, HL.out, HV.out])]
        exact Nat.le_trans (cnt_take_le m k) (by omega)
      rw [HL.out] at hbit
      obtain ⟨j, hj⟩ : ∃ j, j = n - 1 - k := ⟨_, rfl⟩
      rw [← hj] at hbit
      have e1 : (n : Int) - 1 - (k : Int) = (j : Int) := by omega
      clear hj hv hbt
      obtain ⟨q, hq⟩ : ∃ q, q = val m / 2 ^ j := ⟨_, rfl⟩
      have hq2 : ((val m : Nat) : Int) / 2 ^ j = (q : Int) := by rw [hq]; push_cast; rfl
      have hqb : q ≤ 131072 := by rw [hq]; exact Nat.le_trans (Nat.div_le_self _ _) (by omega)
      rw [← hq] at hbit
      have e3 : bits .and .u64 (q : Int) 1 = ((q % 2 : Nat) : Int) := by
        have := bits_and_u64_nat q 1 (by omega) (by omega)
        rw [Nat.and_one_is_mod] at this
        exact this
      clear hq
      generalize hL : sel (vs.take k) (m.take k) = L at *
      cases bt with
      | true =>
        rw [hbit] at e3
        simp only [if_true] at e3
        go_wp2_with (first | (at_builtin; refine wpList_append_lies _ rfl (.tmp 26) (.tmp 29) 30 rfl (w.heap.size + 1) 9 i9 (.string ⟨#[]⟩) 1 16 Try.underlying30 hi9 hz90 hz91 hz92 rfl (by decide) (.slice ao L.length cp) L.length (idCells L) rfl (own_alloc (own_alloc hown _) _) ⟨wr.heap.size + 1, 0, none⟩ 1 1 [.string v.id] rfl rfl (World.news_of_block (cs := #[.string v.id]) (t := 9) (fr := (0, 0)) (new2 wr _ _)) (by simp [Value.oneCell']) (by omega) (by unfold maxLen; omega) (by omega) (by simp; omega) (wr.heap.size + 2) (by simp) ?_; intro g2 cap2 w2 hown2 hgrow2 hat2 hlt2) | fail)
        go_roundw
        case rel =>
          have hA := own_alloc (own_alloc hown (.cells #[.string v.id, .int .u64 v.w, .int .u64 v.c] 86)) (.cells #[.string v.id] 9)
          have hb2 := grown_below hgrow2 (B := w.heap.size + 1) (by simp; omega) (own_ge hA)
          have hb1 : Below (w.heap.size + 1) wr ((wr.alloc (.cells #[.string v.id, .int .u64 v.w, .int .u64 v.c] 86)).alloc (.cells #[.string v.id] 9)) := ((Below.refl _ _).alloc (by omega) _).alloc (by simp; omega) _
          have hb3 := hb1.trans hb2
          refine ⟨k + 1, by omega, by go_num, ?_, ?_, hbel.trans (hb3.mono (by omega)), Nat.lt_of_lt_of_le hsz hb3.size⟩
          · rw [HSN.out]
            simpa [idCells] using hown2
          · rw [hb3.block _ (by omega)]
            exact HBK.out
        case measure => simp [intOf]; omega
      | false =>
        rw [hbit] at e3
        simp only [Bool.false_eq_true, if_false] at e3
        go_wp2
        go_roundw
        case rel =>
          refine ⟨k + 1, by omega, by go_num, ?_, ?_, hbel.trans ((Below.refl _ _).alloc (by omega) _), by simp; omega⟩
          · rw [HSN.out]
            simpa using own_alloc hown _
          · rw [Below.heap_alloc _ _ _ (by omega)]
            exact HBK.out
        case measure => simp [intOf]; omega
    · obtain rfl : k = n := by omega
      have HT : Hid (vs.take k = vs ∧ m.take k = m) := ⟨List.take_of_length_le (by rw [HV.out]; exact Nat.le_refl _), List.take_of_length_le (by rw [HL.out]; exact Nat.le_refl _)⟩
      go_wp2
      go_ret
      rw [HT.out.1, HT.out.2] at hown
      refine ⟨_, rfl, ?_, hbel⟩
      rw [HT.out.1, HT.out.2]
      exact own_less hown (by omega)
end Go.Proofs.Qxb6608623a.qmI
