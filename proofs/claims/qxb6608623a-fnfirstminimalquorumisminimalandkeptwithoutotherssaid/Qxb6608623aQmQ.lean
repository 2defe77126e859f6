/- THE WALK of firstMinimalQuorum. -/
import Derived.Test.Qxb6608623aQmA
import Derived.Test.Qxb6608623aQmK
namespace Go.Proofs.Qxb6608623a.qmQ
open Go.RowKit
open Go.Proofs.Qxb6608623a.Qm
open Go.Proofs.Qxb6608623a.qmW
open Go.Proofs.Qxb6608623a.qmS
open Go.Proofs.Qxb6608623a.qmI
open Go.Proofs.Qxb6608623a.qmR
open Go.Proofs.Qxb6608623a.qmL
set_option linter.unusedVariables false
set_option linter.unusedSimpArgs false

theorem info86 : (Try.prog.info? 86).map (fun i => (i.zero, i.size, i.bytes)) = some (some (.agg #[.string ⟨#[]⟩, .int .u64 0, .int .u64 0]), 3, 32) := by kernel_rfl
def vtCells (T : List Vt) : List Value := T.flatMap fun v => [.string v.id, .int .u64 (v.w : Nat), .int .u64 (v.c : Nat)]
theorem vtCells_append (T U : List Vt) : vtCells (T ++ U) = vtCells T ++ vtCells U := by simp [vtCells]
theorem vtCells_get : ∀ (T : List Vt) (i : Nat) (v : Vt), T[i]? = some v → (vtCells T)[i * 3]? = some (.string v.id) ∧ (vtCells T)[i * 3 + 1]? = some (.int .u64 (v.w : Nat)) ∧ (vtCells T)[i * 3 + 2]? = some (.int .u64 (v.c : Nat))
  | [], i, v, h => by simp at h
  | t :: T, 0, v, h => by
    simp at h
    subst h
    simp [vtCells]
  | t :: T, i + 1, v, h => by
    have := vtCells_get T i v (by simpa using h)
    have e : vtCells (t :: T) = .string t.id :: .int .u64 (t.w : Nat) :: .int .u64 (t.c : Nat) :: vtCells T := rfl
    rw [e, show (i + 1) * 3 = i * 3 + 1 + 1 + 1 by omega]
    simpa using this
theorem own_vt {w : World} {B g cp : Nat} {T : List Vt} (h : w.ownsRow B 86 3 (.slice (some ⟨g, 0, none⟩) T.length cp) T.length (vtCells T)) : (∀ i v, T[i]? = some v → VtAt w g 0 i v) ∧ T.length ≤ cp ∧ g < w.heap.size ∧ B ≤ g := by
  rcases h.2 with ⟨h, _⟩ | ⟨g', cap, cur, h, hB, hh, hle, _, hsz, ht⟩
  · simp at h
  · simp only [Value.slice.injEq, Option.some.injEq, Addr.mk.injEq] at h
    obtain ⟨⟨rfl, _⟩, _, rfl⟩ := h
    refine ⟨fun i v hi => ?_, hle, lt_of_some hh, hB⟩
    have hi' := (List.getElem?_eq_some_iff.1 hi).1
    have := vtCells_get T i v hi
    rw [← ht] at this
    rw [List.getElem?_take_of_lt (by omega), List.getElem?_take_of_lt (by omega), List.getElem?_take_of_lt (by omega)] at this
    unfold VtAt
    simp only [World.cell?, hh, Nat.zero_add]
    simpa using this
def tot : List Vt → Nat
  | [] => 0
  | v :: vs => v.w + tot vs
theorem tot_append (a b : List Vt) : tot (a ++ b) = tot a + tot b := by
  induction a with
  | nil => simp [tot]
  | cons v a ih => simp [tot, ih]; omega
theorem wt_le_tot : ∀ (vs : List Vt) (m : List Bool), wt vs m ≤ tot vs
  | [], m => by simp [wt]
  | v :: vs, [] => by simp [wt]
  | v :: vs, b :: m => by
    have := wt_le_tot vs m
    simp only [wt, tot]
    split <;> omega
theorem take_one {vs : List Vt} {k : Nat} {v : Vt} (h : vs[k]? = some v) : vs.take (k + 1) = vs.take k ++ [v] := by
  rw [List.take_add_one, h]
  rfl

set_option maxRecDepth 100000 in
set_option maxHeartbeats 4000000 in
theorem min41 (b o n cap thr bud : Nat) (vs : List Vt) (hvs : vs.length = n) (hn : n ≤ 256) (ht1 : 1 ≤ thr) (hwork : (n + 1) * (n + 1) * (thr + 1) ≤ 4194304) (hbud : bud < 18446744073709551615)
    (hpos : ∀ v ∈ vs, U v.w ∧ U v.c) (m0 : List Bool) (hfeas : Feas vs thr bud m0) (w : World) (hb : b < w.heap.size) (hcell : ∀ i v, vs[i]? = some v → VtAt w b o i v) :
    Calls Try.prog 41 #[.slice (some ⟨b, o, none⟩) n cap, .int .u64 thr, .int .u64 bud] w
      fun e w' => ∃ r m, e = .returned r ∧ IsFirst vs thr bud m ∧ w'.ownsRow w.heap.size 9 1 r (sel vs m).length (idCells (sel vs m)) ∧ Below w.heap.size w w' := by
  obtain ⟨i86, hi86, hz860, hz861, hz862⟩ := info_parts info86
  have ht : thr ≤ 4194304 := by
    have h1 : 1 * (thr + 1) ≤ (n + 1) * (n + 1) * (thr + 1) := Nat.mul_le_mul_right _ (Nat.mul_le_mul (show 1 ≤ n + 1 by omega) (show 1 ≤ n + 1 by omega))
    omega
  have HC : Hid (∀ i v, vs[i]? = some v → VtAt w b o i v) := hcell
  have HV : Hid (vs.length = n) := hvs
  have HP : Hid (∀ v ∈ vs, U v.w ∧ U v.c) := hpos
  have HF : Hid (Feas vs thr bud m0) := hfeas
  have HW : Hid ((n + 1) * (n + 1) * (thr + 1) ≤ 4194304) := hwork
  clear hcell hvs hpos hfeas hwork
  go_enter Try.func41, Try.ntmps41
  go_wp2
  go_loopw [7, 8, 13] (fun rv wv iv wr => ∃ i : Nat, i ≤ n ∧ iv = .int .i64 i ∧ wv = .int .u64 (min (tot (vs.take i)) thr : Nat) ∧ wr.ownsRow w.heap.size 86 3 rv ((vs.take i).filter pos).length (vtCells ((vs.take i).filter pos)) ∧ Below w.heap.size w wr) (fun _ _ iv _ => n - (intOf iv).toNat)
  case atStart => exact ⟨0, Nat.zero_le _, by go_num, by simp [tot], ⟨by simp [vtCells], .inl ⟨rfl, by simp⟩⟩, Below.refl _ _⟩
  case round =>
    obtain ⟨i, hi, rfl, rfl, hown, hbel⟩ := hrel
    obtain ⟨ao, cp, rfl⟩ := own_form hown
    by_cases hlt : i < n
    · obtain ⟨v, hv⟩ : ∃ v, vs[i]? = some v := ⟨_, List.getElem?_eq_getElem (by rw [HV.out]; exact hlt)⟩
      obtain ⟨d0, d1, d2⟩ := (HC.out i v hv).below hbel hb
      obtain ⟨p1, p2⟩ := HP.out v (List.mem_of_getElem? hv)
      have HT : Hid (vs.take (i + 1) = vs.take i ++ [v]) := take_one hv
      have hfl : ((vs.take i).filter pos).length ≤ 256 := Nat.le_trans (List.length_filter_le _ _) (by rw [List.length_take]; omega)
      have i0 : (0 : Int) ≤ (i : Int) := Int.natCast_nonneg _
      have i1 : (i : Int) < (n : Int) := by omega
      clear hv
      generalize hFl : (vs.take i).filter pos = F at *
      generalize hTo : tot (vs.take i) = tt at *
      have HFL : Hid ((vs.take i).filter pos = F) := hFl
      have HTO : Hid (tot (vs.take i) = tt) := hTo
      obtain ⟨x, hx⟩ : ∃ x, x = min tt thr := ⟨_, rfl⟩
      rw [← hx]
      have HX : Hid (x = min tt thr) := hx
      have hxt : x ≤ thr := by omega
      clear hFl hTo hx
      go_upto_region 6 with fail
      obtain ⟨W, hW⟩ : ∃ W, W = wr.alloc (.cells #[.string v.id, .int .u64 v.w, .int .u64 v.c] 86) := ⟨_, rfl⟩
      rw [← hW]
      have hbW : Below wr.heap.size wr W := by rw [hW]; exact (Below.refl _ _).alloc (Nat.le_refl _) _
      have HVB : Hid (W.heap[wr.heap.size]? = some (.cells #[.string v.id, .int .u64 v.w, .int .u64 v.c] 86 (0, 0))) := by rw [hW]; exact heap_alloc_new _ _
      have hne := own_ne hown
      have HWO : Hid (W.ownsRow w.heap.size 86 3 (.slice ao F.length cp) F.length (vtCells F)) := by rw [hW]; exact own_alloc hown _
      have HWB : Hid (Below w.heap.size w W) := hbel.trans (hbW.mono hbel.size)
      obtain ⟨vb, hvb⟩ : ∃ vb, vb = wr.heap.size := ⟨_, rfl⟩
      rw [← hvb] at HVB hne ⊢
      obtain ⟨k0, k1, k2⟩ := at_three HVB.out
      have hWs := HWB.out.size
      have hvl := lt_of_some HVB.out
      clear hW hbW hvb d0 d1 d2 hown hbel
      by_cases hw : 0 < v.w
      · go_wp2_with (first | (at_builtin; refine wpList_append_lies _ rfl (.tmp 20) (.tmp 22) 84 rfl w.heap.size 86 i86 (.agg #[.string ⟨#[]⟩, .int .u64 0, .int .u64 0]) 3 32 Try.underlying84 hi86 hz860 hz861 hz862 rfl (by decide) (.slice ao F.length cp) F.length (vtCells F) rfl (own_alloc HWO.out _) ⟨W.heap.size, 0, none⟩ 1 1 [.string v.id, .int .u64 v.w, .int .u64 v.c] rfl rfl (World.news_of_block (cs := #[.string v.id, .int .u64 v.w, .int .u64 v.c]) (t := 86) (fr := (0, 0)) (heap_alloc_new W _)) (by simp [Value.oneCell']) (by omega) (by unfold maxLen; omega) (by omega) (by simp; omega) (W.heap.size + 1) (by simp) ?_; intro g2 cap2 w5 hown5 hgrow5 hat5 hlt5; have hv5 : w5.heap[vb]? = some (.cells #[.string v.id, .int .u64 v.w, .int .u64 v.c] 86 (0, 0)) := (hgrow5.block _ (by simp; omega) hne.symm).trans ((Below.heap_alloc _ _ _ hvl).trans HVB.out); obtain ⟨_, y1, y2⟩ := at_three hv5) | (go_at_call 44; refine (add44 _ _ _ hxt p1 (by unfold U; omega) _).mono ?_; rintro e w' ⟨rfl, rfl⟩) | fail)
        go_roundw
        case rel =>
          have hF2 : (vs.take (i + 1)).filter pos = F ++ [v] := by
            rw [HT.out, List.filter_append, HFL.out]
            simp [pos, hw]
          have hT2 : tot (vs.take (i + 1)) = tt + v.w := by
            rw [HT.out, tot_append, HTO.out]
            simp [tot]
          refine ⟨i + 1, by omega, by go_num, ?_, ?_, ?_⟩
          · rw [hT2, addU_min hxt, HX.out]
            congr 2
            omega
          · rw [hF2, List.length_append, vtCells_append]
            exact hown5
          · exact (HWB.out.alloc hWs _).trans (grown_below hgrow5 (by simp; omega) (own_ge HWO.out))
        case measure => simp [intOf]; omega
      · have hw0 : v.w = 0 := by omega
        go_wp2
        go_roundw
        case rel =>
          have hF2 : (vs.take (i + 1)).filter pos = F := by
            rw [HT.out, List.filter_append, HFL.out]
            simp [pos, hw]
          have hT2 : tot (vs.take (i + 1)) = tt := by
            rw [HT.out, tot_append, HTO.out]
            simp [tot, hw0]
          exact ⟨i + 1, by omega, by go_num, by rw [hT2, HX.out], by rw [hF2]; exact HWO.out, HWB.out⟩
        case measure => simp [intOf]; omega
    · obtain rfl : i = n := by omega
      rw [List.take_of_length_le (by rw [HV.out]; exact Nat.le_refl _)] at hown ⊢
      have hwt : thr ≤ tot vs := Nat.le_trans HF.out.2.1 (wt_le_tot _ _)
      have hmin : min (tot vs) thr = thr := by omega
      rw [hmin]
      have hfe := all_feas HF.out
      have hFp : 0 < (vs.filter pos).length := by
        rcases Nat.eq_zero_or_pos (vs.filter pos).length with h | h
        · have e := List.eq_nil_of_length_eq_zero h
          have h2 := hfe.2.1
          rw [e] at h2
          simp [wt] at h2
          omega
        · exact h
      have hFn : (vs.filter pos).length ≤ i := by rw [← HV.out]; exact List.length_filter_le _ _
      have HPF : Hid (∀ v ∈ vs.filter pos, 0 < v.w ∧ U v.w ∧ U v.c) := fun v hv => by
        obtain ⟨h1, h2⟩ := List.mem_filter.1 hv
        exact ⟨by simpa [pos] using h2, HP.out v h1⟩
      obtain ⟨g, cp', he, _, _⟩ := hown.form hFp
      simp only [Value.slice.injEq, true_and] at he
      obtain ⟨rfl, rfl⟩ := he
      obtain ⟨hvc, hcpl, hgl, _⟩ := own_vt hown
      have HVC : Hid (∀ i v, (vs.filter pos)[i]? = some v → VtAt wr g 0 i v) := hvc
      have HFE : Hid (Feas (vs.filter pos) thr bud (res vs m0)) := hfe
      have HFF : Hid (∀ m, IsFirst (vs.filter pos) thr bud m → IsFirst vs thr bud (expd vs m) ∧ sel vs (expd vs m) = sel (vs.filter pos) m) := fun m h => first_filter h
      generalize hG : vs.filter pos = G at *
      obtain ⟨k, hk⟩ : ∃ k, k = G.length := ⟨_, rfl⟩
      have HK : Hid (G.length = k) := hk.symm
      rw [← hk] at hFp hFn hcpl ⊢
      have hkw : (k + 1) * (thr + 1) ≤ 4194304 := by
        refine Nat.le_trans (Nat.mul_le_mul_right _ ?_) HW.out
        calc k + 1 ≤ i + 1 := by omega
          _ ≤ (i + 1) * (i + 1) := Nat.le_mul_of_pos_left _ (by omega)
      have htv : TW.tw k thr ≤ 4194304 := by
        unfold TW.tw
        have hr : TW.rows k ≤ (i + 1) * (i + 1) := by
          unfold TW.rows
          have h1 : (k + 1) * (k + 2) ≤ (k + 1) * ((k + 1) * 2) := Nat.mul_le_mul_left _ (by omega)
          have h2 : (k + 1) * (k + 1) ≤ (i + 1) * (i + 1) := Nat.mul_le_mul (by omega) (by omega)
          rw [← Nat.mul_assoc] at h1
          omega
        have h3 : TW.rows k * (thr + 1) ≤ 4194304 := Nat.le_trans (Nat.mul_le_mul_right _ hr) HW.out
        have hrp : 0 < TW.rows k := by
          unfold TW.rows
          have : 2 ≤ (k + 1) * (k + 2) := Nat.le_trans (by omega) (Nat.mul_le_mul (show 1 ≤ k + 1 by omega) (show 2 ≤ k + 2 by omega))
          omega
        split
        · rename_i hd
          exfalso
          have h4 := (Nat.div_lt_iff_lt_mul hrp).1 (Nat.lt_succ_of_le hd)
          rw [Nat.mul_comm] at h4
          unfold TW.M at h4
          have : TW.rows k * thr.succ = TW.rows k * (thr + 1) := rfl
          omega
        · exact h3
      have eT := TW.T_nat k thr
      generalize TW.tw k thr = tv at *
      have HOW : Hid (Below w.heap.size w wr) := hbel
      clear hvc hfe hown hbel hwt hmin hG hk
      go_upto_if 38 with (first | (go_at_call 26; refine (twW.tw26n k thr (by omega) (by omega) _).mono ?_; rintro e w' ⟨rfl, rfl⟩) | (go_at_call 45; refine (half45 k (by omega) _).mono ?_; rintro e w' ⟨r, rfl, hru, hr35, rfl⟩) | fail)
      have HR35 : Hid (35 ≤ k → 4194304 ≤ r) := hr35
      clear hr35
      by_cases hle : tv ≤ r
      · have hd : decide (tv ≤ r) = true := decide_eq_true hle
        go_wp2_with (first | (go_at_call 46; refine (qmA.tables46 g 0 k cp thr bud G HK.out hFp (by omega) ht1 hkw hbud HPF.out (res vs m0) HFE.out wr hgl HVC.out).mono ?_; rintro e w6 ⟨r6, m6, rfl, hfi, hown6, hb6⟩) | fail)
        go_ret
        obtain ⟨q1, q2⟩ := HFF.out m6 hfi
        exact ⟨_, expd vs m6, rfl, q1, by rw [q2]; exact own_less hown6 HOW.out.size, HOW.out.trans (hb6.mono HOW.out.size)⟩
      · have hd : decide (tv ≤ r) = false := decide_eq_false hle
        have hk34 : k ≤ 34 := by
          rcases Nat.lt_or_ge k 35 with h | h
          · omega
          · have := HR35.out h
            omega
        go_wp2_with (first | (go_at_call 47; refine (qmK.halves47 g 0 k cp thr bud G HK.out hFp hk34 hcpl ht1 (by unfold U; omega) hbud (fun v hv => (HPF.out v hv).2) (res vs m0) HFE.out wr hgl HVC.out).mono ?_; rintro e w6 ⟨r6, m6, rfl, hfi, hown6, hb6⟩) | fail)
        go_ret
        obtain ⟨q1, q2⟩ := HFF.out m6 hfi
        exact ⟨_, expd vs m6, rfl, q1, by rw [q2]; exact own_less hown6 HOW.out.size, HOW.out.trans (hb6.mono HOW.out.size)⟩
end Go.Proofs.Qxb6608623a.qmQ
