/- THE WALK of (*rules).add. -/
import Derived.Test.Qxb6608516aAdL
import Derived.WalkLawsBesides
import Derived.Deep.RegionHeld3
import Derived.Deep.RegionLaw
import Derived.Deep.AppendLies
import Derived.Deep.DrawnRows
import Derived.Deep.DeepCutAuto
namespace Go.Proofs.Qxb6608516a.adW
open Go.RowKit
open Go.Proofs.Qxb6608516a.Ad
open Go.Proofs.Qxb6608516a.adC
open Go.Proofs.Qxb6608516a.adH
open Go.Proofs.Qxb6608516a.adL (wpList_len_run step_len_run)
open Go.Proofs.Qxb6608516a.adM (SetIs vH vT Ok keyT keyH vH_inj vT_inj law63 law60)
set_option linter.unusedVariables false
attribute [local go_sem ↓] Go.wp_at_zero Go.wp_at_succ

theorem info3 : (Try.prog.info? 3).map (fun i => (i.zero, i.size, i.bytes)) = some (some (.int .i64 0), 1, 8) := by kernel_rfl
theorem info60 : (Try.prog.info? 60).map (fun i => (i.zero, i.size, i.bytes)) = some (some (.agg #[.int .i64 0, .int .i64 0]), 2, 16) := by kernel_rfl
theorem info63 : (Try.prog.info? 63).map (fun i => (i.zero, i.size, i.bytes)) = some (some (.agg #[.int .i64 0, .int .i64 0, .int .i64 0]), 3, 24) := by kernel_rfl

theorem new2 (w : World) (o p : Obj) : ((w.alloc o).alloc p).heap[w.heap.size + 1]? = some p := by
  have := heap_alloc_new (w.alloc o) p
  simpa using this
theorem two_size (w : World) (o p : Obj) : ((w.alloc o).alloc p).heap.size = w.heap.size + 2 := by simp

set_option maxRecDepth 100000 in
set_option maxHeartbeats 8000000 in
theorem add28 (w : World) (B : Nat) (F : Nat → Prop) (R n Hb mh mt : Nat) (wd : Bool) (Lo : List Int) (Lr : List Stp) (Lh : Nat → List (Int × Int)) (m1 : Nat) (L1 : List Stp) (m2 : Nat) (L2 : List (Int × Int))
    (c : Nat) (a r : Int) (hc : c < n) (hn : n ≤ 65536) (hlo : Lo.length ≤ 8192) (hlr : Lr.length ≤ 8192) (hlh : (Lh c).length ≤ 8192) (hm1 : m1 ≤ 8192) (hm2 : m2 ≤ 8192) (ha : Ok a) (hr : Ok r)
    (Lo1 : List Int) (HLo : Hid (Lo1 = if Lh c = [] then Lo ++ [(c : Int)] else Lo)) (Lh1 : Nat → List (Int × Int)) (HLh : Hid (Lh1 = fun j => if j = c then Lh c ++ [(a, r)] else Lh j))
    (Lr1 : List Stp) (HLr : Hid (Lr1 = if ((c : Int), a, r) ∈ L1 then Lr ++ [((c : Int), a, r)] else Lr)) (wd1 : Bool) (HWd : Hid (wd1 = (wd || a == -1 || decide (r < 0))))
    (hP : Ph w B w.heap.size F [] R n Hb mh mt wd Lo Lr Lh m1 L1 m2 L2 w) :
    Calls Try.prog 28 #[.pointer (some ⟨R, 0, none⟩), .int .i64 c, .agg #[.int .i64 a, .int .i64 r]] w fun e w' => e = .returned (.tuple #[]) ∧ Ph w B w.heap.size F [] R n Hb mh mt wd1 Lo1 Lr1 Lh1 (m1 + 1) (L1 ++ [((c : Int), a, r)]) (m2 + 1) (L2 ++ [(a, r)]) w' := by
  obtain ⟨i3, hi3, hz30, hz31, hz32⟩ := info_parts info3
  obtain ⟨i60, hi60, hz600, hz601, hz602⟩ := info_parts info60
  obtain ⟨i63, hi63, hz630, hz631, hz632⟩ := info_parts info63
  have hcok : Ok (c : Int) := WalkArith.wf_i64 (by omega)
  obtain ⟨ho, rp, hs, hF⟩ := hP
  obtain ⟨ao, co, rfl⟩ := own_form hF.core.oo.own
  obtain ⟨v, hv⟩ : ∃ v, hs[c]? = some v := ⟨_, List.getElem?_eq_getElem (by have := hF.core.len; omega)⟩
  obtain ⟨av, cv, rfl⟩ := own_form (hF.core.oh c v hv).own
  have c5 : w.cell? ⟨R, 5, none⟩ = some (.slice (some ⟨Hb, 0, none⟩) n n) := by simp [World.cell?, hF.core.hR, rcells]
  have c6 : w.cell? ⟨R, 6, none⟩ = some (.slice ao Lo.length co) := by simp [World.cell?, hF.core.hR, rcells]
  have cc : w.cell? ⟨Hb, c, none⟩ = some (.slice av (Lh c).length cv) := by simp [World.cell?, hF.core.hH, hv]
  have lR : R < w.heap.size := lt_of_some hF.core.hR
  have lH : Hb < w.heap.size := lt_of_some hF.core.hH
  have hB : B ≤ w.heap.size := hF.core.bN
  have HV : Hid (hs[c]? = some (.slice av (Lh c).length cv)) := hv
  clear hv
  obtain ⟨T, hTe⟩ : ∃ T, T = w.heap.size := ⟨_, rfl⟩
  have HT : Hid (T = w.heap.size) := hTe
  clear hTe
  go_enter Try.func28, Try.ntmps28
  go_upto_if 16 with fail
  go_cut [5] (fun p wx => p = .pointer (some ⟨w.heap.size, 0, none⟩) ∧ Ph w B w.heap.size F [w.heap.size] R n Hb mh mt wd Lo1 Lr Lh m1 L1 m2 L2 wx ∧ wx.heap[w.heap.size]? = some (.cells #[.int .i64 a, .int .i64 r] 60 (0, 0)))
  case first =>
    have hF1 := hF.allocX (.cells #[.int .i64 a, .int .i64 r] 60)
    have hT1 : Hid ((w.alloc (.cells #[.int .i64 a, .int .i64 r] 60)).heap[w.heap.size]? = some (.cells #[.int .i64 a, .int .i64 r] 60 (0, 0))) := heap_alloc_new w (.cells #[.int .i64 a, .int .i64 r] 60)
    by_cases hz : Lh c = []
    · have hb : (((Lh c).length : Int) == 0) = true := by simp [hz]
      have HZ : Hid (Lh c = []) := hz
      clear hz
      have hF2 := hF1.alloc (.cells #[.int .i64 c] 3)
      have hT2 : Hid (((w.alloc (.cells #[.int .i64 a, .int .i64 r] 60)).alloc (.cells #[.int .i64 c] 3)).heap[w.heap.size]? = some (.cells #[.int .i64 a, .int .i64 r] 60 (0, 0))) := by
        show _ = _
        rw [Below.heap_alloc _ _ _ (by simp)]; exact hT1.out
      go_wp2_with (first | (at_builtin; refine wpList_append_lies _ rfl (.tmp 21) (.tmp 23) 24 rfl B 3 i3 (.int .i64 0) 1 8 Try.underlying24 hi3 hz30 hz31 hz32 rfl (by decide) (.slice ao Lo.length co) Lo.length (cells1 Lo) rfl hF2.core.oo.own ⟨w.heap.size + 1, 0, none⟩ 1 1 [.int .i64 c] rfl rfl (World.news_of_block (cs := #[.int .i64 c]) (t := 3) (fr := (0, 0)) (new2 w _ _)) (by simp [Value.oneCell']) (by omega) (by unfold maxLen; omega) (by omega) (by simp; omega) (w.heap.size + 2) (by simp) ?_; intro g2 cap2 w2 hown2 hgrow2 hat2 hlt2; obtain ⟨_, q6, _, _, _, _, qf⟩ := at_R (R_grown hF2.core hF2.core.oo (by decide) hgrow2)) | fail)
      go_meet
      case rel =>
        rw [HLo.out, if_pos HZ.out]
        refine ⟨rfl, ⟨_, _, _, hF2.appendHolders hown2 hgrow2 (by rw [two_size]; exact hat2)⟩, ?_⟩
        exact out_cell (out_grown hF2.core.oo (by simp) hT2.out hgrow2) (by simp; omega) _
    · have hb : (((Lh c).length : Int) == 0) = false := by rw [beq_eq_false_iff_ne]; intro e; exact hz (List.eq_nil_of_length_eq_zero (by omega))
      have HZ : Hid (¬ Lh c = []) := hz
      clear hz
      go_wp2
      go_meet
      case rel =>
        rw [HLo.out, if_neg HZ.out]
        exact ⟨rfl, ⟨_, _, _, hF1⟩, hT1.out⟩
  case rest =>
    obtain ⟨rfl, ⟨ho1, rp1, hs1, hG⟩, hTb⟩ := hcut
    clear c5 c6 cc lR lH HV hF
    obtain ⟨v1, hv1⟩ : ∃ v, hs1[c]? = some v := ⟨_, List.getElem?_eq_getElem (by have := hG.core.len; omega)⟩
    obtain ⟨av1, cv1, rfl⟩ := own_form (hG.core.oh c v1 hv1).own
    have HV1 : Hid (hs1[c]? = some (.slice av1 (Lh c).length cv1)) := hv1
    have HTB : Hid (wc.heap[w.heap.size]? = some (.cells #[.int .i64 a, .int .i64 r] 60 (0, 0))) := hTb
    have lT : w.heap.size < wc.heap.size := lt_of_some hTb
    have lR : R < wc.heap.size := lt_of_some hG.core.hR
    have lH : Hb < wc.heap.size := lt_of_some hG.core.hH
    clear hv1 hTb
    go_upto_region 3 with fail
    go_cut [5] (fun p wx => p = .pointer (some ⟨w.heap.size, 0, none⟩) ∧ Ph w B w.heap.size F [w.heap.size] R n Hb mh mt wd Lo1 Lr Lh1 m1 L1 m2 L2 wx ∧ wx.heap[w.heap.size]? = some (.cells #[.int .i64 a, .int .i64 r] 60 (0, 0)))
    case first =>
      obtain ⟨t0, t1⟩ := at_two HTB.out
      obtain ⟨c5, _, _, _, _, _, _⟩ := at_R hG.core.hR
      obtain ⟨cc, cf⟩ := at_H hG.core.hH HV1.out
      have hc0 : (0 : Int) ≤ (c : Int) := Int.natCast_nonneg _
      have hc1 : (c : Int) < (n : Int) := by omega
      have hG2 := (hG.alloc (.cells #[.int .i64 a, .int .i64 r] 60)).drew
      have neRH : R ≠ Hb := ne_of_types hG.core.hR hG.core.hH (by decide)
      have neTH : w.heap.size ≠ Hb := ne_of_types HTB.out hG.core.hH (by decide)
      go_region_law
        ((refine step_append_lies _ (by rfl) _ _ _ (by rfl) B 60 i60 _ 2 16 Try.underlying61 hi60 hz600 hz601 hz602 rfl (by omega) (.slice av1 (Lh c).length cv1) (Lh c).length (cells2 (Lh c)) (by rfl) (hG2.core.oh c _ HV1.out).own ⟨wc.heap.size, 0, none⟩ 1 1 [.int .i64 a, .int .i64 r] (by rfl) (by rfl) (World.news_of_block (cs := #[.int .i64 a, .int .i64 r]) (t := 60) (fr := (0, 0)) (heap_alloc_new wc _)) (by simp [Value.oneCell']) (by omega) (by unfold maxLen; omega) (by omega) (by simp; omega) (wc.heap.size + 1) (by simp) ?_; intro g3 cap3 w3 hown3 hgrow3 hat3 hlt3; obtain ⟨q5, _⟩ := at_R (R_grown hG2.core (hG2.core.oh c _ HV1.out) (by decide) hgrow3); obtain ⟨qc, qf⟩ := at_H (H_grown hG2.core (hG2.core.oh c _ HV1.out) (by decide) hgrow3) HV1.out; obtain ⟨qt0, qt1⟩ := at_two (out_grown (hG2.core.oh c _ HV1.out) (by simp) (show (wc.alloc (.cells #[.int .i64 a, .int .i64 r] 60)).drew.heap[w.heap.size]? = _ from (Below.heap_alloc _ _ _ lT).trans HTB.out) hgrow3)))
      all_goals
        go_wp2
        go_meet
        case rel =>
          refine ⟨rfl, ⟨_, _, _, by rw [HLh.out]; exact hG2.appendHeld HV1.out hown3 hgrow3 (by simpa using hat3)⟩, ?_⟩
          exact out_cell (out_grown (hG2.core.oh c _ HV1.out) (by simp) (show (wc.alloc (.cells #[.int .i64 a, .int .i64 r] 60)).drew.heap[w.heap.size]? = _ from (Below.heap_alloc _ _ _ lT).trans HTB.out) hgrow3) neTH _
    case rest =>
      clear HV1 HTB lT lR lH hG
      obtain ⟨rfl, ⟨ho2, rp2, hs2, hG⟩, hTb⟩ := hcut
      obtain ⟨wA, rfl⟩ : ∃ x : World, x = wc := ⟨_, rfl⟩
      have HTB : Hid (wA.heap[w.heap.size]? = some (.cells #[.int .i64 a, .int .i64 r] 60 (0, 0))) := hTb
      have lT : w.heap.size < wA.heap.size := lt_of_some hTb
      have lR : R < wA.heap.size := lt_of_some hG.core.hR
      clear hTb
      go_upto_region 4 with fail
      go_cut [5, 6, 7] (fun p q k wx => p = .pointer (some ⟨w.heap.size, 0, none⟩) ∧ q = .pointer (some ⟨wA.heap.size, 0, none⟩) ∧ k = .int .i64 ((Ad.distinct L1).length : Nat) ∧ Ph w B w.heap.size F [wA.heap.size, w.heap.size] R n Hb mh mt wd Lo1 Lr Lh1 m1 L1 m2 L2 wx ∧ wx.heap[w.heap.size]? = some (.cells #[.int .i64 a, .int .i64 r] 60 (0, 0)) ∧ wx.heap[wA.heap.size]? = some (.cells #[.int .i64 c, .int .i64 a, .int .i64 r] 63 (0, 0)))
      case first =>
        obtain ⟨t0, t1⟩ := at_two HTB.out
        obtain ⟨_, _, c7, _, _, _, _⟩ := at_R hG.core.hR
        obtain ⟨es1, k1, hmb⟩ := hG.sh.block
        have lM : mh < wA.heap.size := lt_of_some hmb
        have HMB : Hid (wA.heap[mh]? = some (.map es1 k1)) := hmb
        clear hmb
        have hlen : ∀ W : World, W.heap[mh]? = wA.heap[mh]? → (Builtin.len_ #[49] 3 #[.map (some mh)]).run Try.prog W = .ok (.int .i64 ((Ad.distinct L1).length : Nat)) W := fun W hW => (hG.sh.congr hW).len Try.underlying49 3
        have HLEN : Hid (∀ W : World, W.heap[mh]? = wA.heap[mh]? → (Builtin.len_ #[49] 3 #[.map (some mh)]).run Try.prog W = .ok (.int .i64 ((Ad.distinct L1).length : Nat)) W) := hlen
        clear hlen
        have n1 := World.new_ne wA ⟨R, 7, none⟩ c7
        have n2 := World.new_ne wA ⟨w.heap.size, 0, none⟩ t0
        have n3 := World.new_ne wA ⟨w.heap.size, 1, none⟩ t1
        go_region_held3 (fun w' => w'.cell? ⟨R, 7, none⟩ = some (.map (some mh)) ∧ w'.cell? ⟨w.heap.size, 0, none⟩ = some (.int .i64 a) ∧ w'.cell? ⟨w.heap.size, 1, none⟩ = some (.int .i64 r) ∧ (Builtin.len_ #[49] 3 #[.map (some mh)]).run Try.prog w' = .ok (.int .i64 ((Ad.distinct L1).length : Nat)) w')
          (exact ⟨by go_keep, by go_keep, by go_keep, HLEN.out _ (by first | rfl | exact Below.heap_alloc _ _ _ lM)⟩)
          (fail)
        all_goals
          go_wp2
          go_meet
          case rel =>
            refine ⟨rfl, rfl, rfl, ⟨_, _, _, (hG.allocX (.cells #[.int .i64 c, .int .i64 a, .int .i64 r] 63)).drew⟩, ?_, ?_⟩
            · exact (Below.heap_alloc _ _ _ lT).trans HTB.out
            · exact heap_alloc_new _ _
      case rest =>
        clear HTB lT lR hG
        obtain ⟨rfl, rfl, rfl, ⟨ho3, rp3, hs3, hG⟩, hTb, hHb⟩ := hcut
        obtain ⟨wB, rfl⟩ : ∃ x : World, x = wc := ⟨_, rfl⟩
        obtain ⟨h, hh⟩ : ∃ h, h = wA.heap.size := ⟨_, rfl⟩
        rw [← hh] at hG hHb ⊢
        clear hh
        have HTB : Hid (wB.heap[w.heap.size]? = some (.cells #[.int .i64 a, .int .i64 r] 60 (0, 0))) := hTb
        have HHB : Hid (wB.heap[h]? = some (.cells #[.int .i64 c, .int .i64 a, .int .i64 r] 63 (0, 0))) := hHb
        clear hTb hHb
        go_upto_region 5 with fail
        go_cut [5, 6, 7] (fun p q k wx => p = .pointer (some ⟨w.heap.size, 0, none⟩) ∧ q = .pointer (some ⟨h, 0, none⟩) ∧ k = .int .i64 ((Ad.distinct L1).length : Nat) ∧ Ph w B w.heap.size F [h, w.heap.size] R n Hb mh mt wd Lo1 Lr Lh1 (m1 + 1) (L1 ++ [((c : Int), a, r)]) m2 L2 wx ∧ wx.heap[w.heap.size]? = some (.cells #[.int .i64 a, .int .i64 r] 60 (0, 0)) ∧ wx.heap[h]? = some (.cells #[.int .i64 c, .int .i64 a, .int .i64 r] 63 (0, 0)))
        case first =>
          obtain ⟨h0, h1, h2⟩ := at_three HHB.out
          obtain ⟨_, _, c7, _, _, _, _⟩ := at_R hG.core.hR
          obtain ⟨wD, hrun, hG5, hturn⟩ := hG.drew.storeH ((c : Int), a, r) hcok ha hr (by unfold maxLen; omega)
          have hrun' : (Instr.mapUpdate 49 (.map (some mh)) (.agg #[.int .i64 c, .int .i64 a, .int .i64 r]) (.agg #[])).run Try.prog wB.drew = .ok () wD := hrun
          clear hrun
          have HTD : Hid (wD.heap[w.heap.size]? = some (.cells #[.int .i64 a, .int .i64 r] 60 (0, 0))) := out_turned (w := wB.drew) HTB.out hturn
          have HHD : Hid (wD.heap[h]? = some (.cells #[.int .i64 c, .int .i64 a, .int .i64 r] 63 (0, 0))) := out_turned (w := wB.drew) HHB.out hturn
          obtain ⟨d0, d1, d2⟩ := at_three HHD.out
          obtain ⟨_, _, d7, _, _, _, _⟩ := at_R hG5.core.hR
          go_region_held3 (fun w' => w'.cell? ⟨R, 7, none⟩ = some (.map (some mh)) ∧ w'.cell? ⟨h, 0, none⟩ = some (.int .i64 c) ∧ w'.cell? ⟨h, 1, none⟩ = some (.int .i64 a) ∧ w'.cell? ⟨h, 2, none⟩ = some (.int .i64 r))
            (go_keep)
            (fail)
          go_wp2
          go_meet
          case rel => exact ⟨rfl, rfl, rfl, ⟨_, _, _, hG5⟩, HTD.out, HHD.out⟩
        case rest =>
          clear HTB HHB hG
          obtain ⟨rfl, rfl, rfl, ⟨ho4, rp4, hs4, hG⟩, hTb, hHb⟩ := hcut
          obtain ⟨wC, rfl⟩ : ∃ x : World, x = wc := ⟨_, rfl⟩
          have HTB : Hid (wC.heap[w.heap.size]? = some (.cells #[.int .i64 a, .int .i64 r] 60 (0, 0))) := hTb
          have HHB : Hid (wC.heap[h]? = some (.cells #[.int .i64 c, .int .i64 a, .int .i64 r] 63 (0, 0))) := hHb
          have lT : w.heap.size < wC.heap.size := lt_of_some hTb
          have lh : h < wC.heap.size := lt_of_some hHb
          have lR : R < wC.heap.size := lt_of_some hG.core.hR
          clear hTb hHb
          obtain ⟨_, _, c7, _, _, c11, _⟩ := at_R hG.core.hR
          have hlen := hG.sh.len Try.underlying49 3
          have HLEN : Hid ((Builtin.len_ #[49] 3 #[.map (some mh)]).run Try.prog wC = .ok (.int .i64 ((Ad.distinct (L1 ++ [((c : Int), a, r)])).length : Nat)) wC) := hlen
          clear hlen
          go_upto_if 63 with (at_len; refine wpList_len_run _ rfl _ 49 rfl (.map (some mh)) (.int .i64 ((Ad.distinct (L1 ++ [((c : Int), a, r)])).length : Nat)) rfl HLEN.out ?_)
          go_cut [5, 6] (fun p q wx => p = .pointer (some ⟨w.heap.size, 0, none⟩) ∧ q = .pointer (some ⟨h, 0, none⟩) ∧ Ph w B w.heap.size F [h, w.heap.size] R n Hb mh mt wd Lo1 Lr1 Lh1 (m1 + 1) (L1 ++ [((c : Int), a, r)]) m2 L2 wx ∧ wx.heap[w.heap.size]? = some (.cells #[.int .i64 a, .int .i64 r] 60 (0, 0)))
          case first =>
            obtain ⟨h0, h1, h2⟩ := at_three HHB.out
            obtain ⟨ap, cp, rfl⟩ := own_form hG.core.orp.own
            by_cases hin : ((c : Int), a, r) ∈ L1
            · have hb : ((((Ad.distinct (L1 ++ [((c : Int), a, r)])).length : Nat) : Int) == (((Ad.distinct L1).length : Nat) : Int)) = true := by
                rw [Ad.distinct_snoc, Ad.length_addNew, if_pos ((Ad.mem_distinct _ _).2 hin)]; simp
              have HIN : Hid (((c : Int), a, r) ∈ L1) := hin
              clear hin
              have hG2 := (hG.alloc (.cells #[.int .i64 c, .int .i64 a, .int .i64 r] 63)).drew
              go_wp2_with fail
              go_region_law
                ((refine step_append_lies _ (by rfl) _ _ _ (by rfl) B 63 i63 _ 3 24 Try.underlying55 hi63 hz630 hz631 hz632 rfl (by omega) (.slice ap Lr.length cp) Lr.length (cells3 Lr) (by rfl) hG2.core.orp.own ⟨wC.heap.size, 0, none⟩ 1 1 [.int .i64 c, .int .i64 a, .int .i64 r] (by rfl) (by rfl) (World.news_of_block (cs := #[.int .i64 c, .int .i64 a, .int .i64 r]) (t := 63) (fr := (0, 0)) (heap_alloc_new wC _)) (by simp [Value.oneCell']) (by omega) (by unfold maxLen; omega) (by omega) (by simp; omega) (wC.heap.size + 1) (by simp) ?_; intro g7 cap7 w7 hown7 hgrow7 hat7 hlt7; obtain ⟨_, _, _, _, _, q11, qf⟩ := at_R (R_grown hG2.core hG2.core.orp (by decide) hgrow7)))
              all_goals
                go_wp2
                go_meet
                case rel =>
                  refine ⟨rfl, rfl, ⟨_, _, _, by rw [HLr.out, if_pos HIN.out]; exact hG2.appendRep (st := ((c : Int), a, r)) hown7 hgrow7 (by simpa using hat7)⟩, ?_⟩
                  exact out_cell (out_grown hG2.core.orp (by simp) (show (wC.alloc (.cells #[.int .i64 c, .int .i64 a, .int .i64 r] 63)).drew.heap[w.heap.size]? = _ from (Below.heap_alloc _ _ _ lT).trans HTB.out) hgrow7) (ne_of_types HTB.out hG.core.hR (by decide)) _
            · have hb : ((((Ad.distinct (L1 ++ [((c : Int), a, r)])).length : Nat) : Int) == (((Ad.distinct L1).length : Nat) : Int)) = false := by
                rw [Ad.distinct_snoc, Ad.length_addNew, if_neg (fun q => hin ((Ad.mem_distinct _ _).1 q)), beq_eq_false_iff_ne]; omega
              have HIN : Hid (¬ ((c : Int), a, r) ∈ L1) := hin
              clear hin
              go_wp2
              go_meet
              case rel =>
                rw [HLr.out, if_neg HIN.out]
                exact ⟨rfl, rfl, ⟨_, _, _, hG⟩, HTB.out⟩
          case rest =>
            clear HTB HHB hG c7 c11 lT lh lR HLEN
            obtain ⟨rfl, rfl, ⟨ho5, rp5, hs5, hG⟩, hTb⟩ := hcut
            obtain ⟨wE, rfl⟩ : ∃ x : World, x = wc := ⟨_, rfl⟩
            have HTB : Hid (wE.heap[w.heap.size]? = some (.cells #[.int .i64 a, .int .i64 r] 60 (0, 0))) := hTb
            clear hTb
            go_upto_region 8 with fail
            go_cut [5] (fun p wx => p = .pointer (some ⟨w.heap.size, 0, none⟩) ∧ Ph w B w.heap.size F [h, w.heap.size] R n Hb mh mt wd Lo1 Lr1 Lh1 (m1 + 1) (L1 ++ [((c : Int), a, r)]) (m2 + 1) (L2 ++ [(a, r)]) wx ∧ wx.heap[w.heap.size]? = some (.cells #[.int .i64 a, .int .i64 r] 60 (0, 0)))
            case first =>
              obtain ⟨t0, t1⟩ := at_two HTB.out
              obtain ⟨_, _, _, c8, _, _, _⟩ := at_R hG.core.hR
              obtain ⟨wD, hrun, hG5, hturn⟩ := hG.drew.storeT (a, r) ha hr (by unfold maxLen; omega)
              have hrun' : (Instr.mapUpdate 50 (.map (some mt)) (.agg #[.int .i64 a, .int .i64 r]) (.agg #[])).run Try.prog wE.drew = .ok () wD := hrun
              clear hrun
              have HTD : Hid (wD.heap[w.heap.size]? = some (.cells #[.int .i64 a, .int .i64 r] 60 (0, 0))) := out_turned (w := wE.drew) HTB.out hturn
              obtain ⟨d0, d1⟩ := at_two HTD.out
              obtain ⟨_, _, _, d8, _, _, _⟩ := at_R hG5.core.hR
              go_region_held3 (fun w' => w'.cell? ⟨R, 8, none⟩ = some (.map (some mt)) ∧ w'.cell? ⟨w.heap.size, 0, none⟩ = some (.int .i64 a) ∧ w'.cell? ⟨w.heap.size, 1, none⟩ = some (.int .i64 r))
                (go_keep)
                (fail)
              go_wp2
              go_meet
              case rel => exact ⟨rfl, ⟨_, _, _, hG5⟩, HTD.out⟩
            case rest =>
              clear HTB hG
              obtain ⟨rfl, ⟨ho6, rp6, hs6, hG⟩, hTb⟩ := hcut
              obtain ⟨wG, rfl⟩ : ∃ x : World, x = wc := ⟨_, rfl⟩
              obtain ⟨t0, t1⟩ := at_two hTb
              obtain ⟨_, _, _, _, c9, _, qf⟩ := at_R hG.core.hR
              have qf9 := qf 9
              clear hTb qf
              have HG : Hid (Full w B w.heap.size F [h, w.heap.size] R n Hb mh mt ho6 rp6 hs6 wd Lo1 Lr1 Lh1 (m1 + 1) (L1 ++ [((c : Int), a, r)]) (m2 + 1) (L2 ++ [(a, r)]) wG) := hG
              clear hG
              cases wd with
              | true =>
                go_wp2
                go_end0
                refine ⟨rfl, ?_⟩
                rw [show wd1 = true from HWd.out]
                exact ⟨_, _, _, (HG.out.setWild true).dropX⟩
              | false =>
                by_cases ha1 : a = -1
                · have hb1 : (a == -1) = true := by simp [ha1]
                  have HA : Hid (a = -1) := ha1
                  clear ha1
                  go_wp2
                  go_end0
                  refine ⟨rfl, ?_⟩
                  have e : (false || a == -1 || decide (r < 0)) = true := by simp [HA.out]
                  rw [HWd.out, e]
                  exact ⟨_, _, _, (HG.out.setWild true).dropX⟩
                · have hb1 : (a == -1) = false := by simp [ha1]
                  clear ha1
                  by_cases hr0 : r < 0
                  · have hd : decide (r < 0) = true := by simp [hr0]
                    go_wp2
                    go_end0
                    refine ⟨rfl, ?_⟩
                    have e : (false || a == -1 || decide (r < 0)) = true := by simp [hr0]
                    rw [HWd.out, e]
                    exact ⟨_, _, _, (HG.out.setWild true).dropX⟩
                  · have hd : decide (r < 0) = false := by simp [hr0]
                    go_wp2
                    go_end0
                    refine ⟨rfl, ?_⟩
                    have e : (false || a == -1 || decide (r < 0)) = false := by rw [hb1, hd]; rfl
                    rw [HWd.out, e]
                    exact ⟨_, _, _, (HG.out.setWild false).dropX⟩
end Go.Proofs.Qxb6608516a.adW
