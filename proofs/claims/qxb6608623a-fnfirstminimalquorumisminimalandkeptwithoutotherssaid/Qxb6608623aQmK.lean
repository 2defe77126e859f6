/- THE WALK of firstByHalves. -/
import Derived.Test.Qxb6608623aQmJ
import Derived.Test.Qxb6608623aQmO
import Derived.Test.Qxb6608623aQmU
import Derived.Deep.RegionWith
namespace Go.Proofs.Qxb6608623a.qmK
open Go.RowKit
open Go.Proofs.Qxb6608623a.Qm
open Go.Proofs.Qxb6608623a.qmW
open Go.Proofs.Qxb6608623a.qmS
open Go.Proofs.Qxb6608623a.qmI
open Go.Proofs.Qxb6608623a.qmR
open Go.Proofs.Qxb6608623a.qmL
open Go.Proofs.Qxb6608623a.qmM
open Go.Proofs.Qxb6608623a.qmN
open Go.Proofs.Qxb6608623a.qmJ
open Go.Proofs.Qxb6608623a.qmU
set_option linter.unusedVariables false
set_option linter.unusedSimpArgs false
attribute [local go_sem ↓] Go.wp_at_zero Go.wp_at_succ

/-- a half, as it lies in the variable at block x -/
structure HalfAt (w : World) (x b o n cap : Nat) (L H : Nat) (C D : List Value) (S : List (List Sb)) (N thr over : Nat) (vs : List Vt) : Prop where
  blk : w.heap[x]? = some (.cells #[.slice (some ⟨b, o, none⟩) n cap, .slice (some ⟨L, 0, none⟩) N N, .slice (some ⟨H, 0, none⟩) N N] 97 (0, 0))
  by_ : BySz w L C N S
  hv : HvSz w H D N S
  li : Lists n thr over vs S
theorem HalfAt.below {w w' : World} {x b o n cap L H : Nat} {C D : List Value} {S : List (List Sb)} {N thr over : Nat} {vs : List Vt} (h : HalfAt w x b o n cap L H C D S N thr over vs) (hb : Below w.heap.size w w') : HalfAt w' x b o n cap L H C D S N thr over vs :=
  ⟨(hb.block _ (lt_of_some h.blk)).trans h.blk, h.by_.below hb, h.hv.below hb, h.li⟩

/-- append of nothing, at a step of a region that draws -/
theorem step_append_none {P : Program} {w : World} {ops : Array Oper} {o : Oper} {a : Act} {K : Act → World → Prop} {Q : Exit → Act → World → Prop} {E : Prop} (hgd : o.guard = none) (s x : Operand) (t : TypeId)
    (ho : o.op = .call { callee := .builtin .append, args := #[s, x], argTypes := #[t, t] }) (base : Nat) (e : TypeId) (i : TypeInfo) (size : Nat) (ht : P.underlying t = some (.slice e)) (hi : P.info? e = some i)
    (v : Value) (n : Nat) (xs : List Value) (hs : a.eval s = v) (hown : w.ownsRow base e size v n xs) (hx : a.eval x = .slice none 0 0) (h : K (a.put o.dst v) w) :
    if Region.wanted o (yielded ops a.tmps) = true then Oper.wp P o a w K Q else E := by
  have hw : Region.wanted o (yielded ops a.tmps) = true := by simp [Region.wanted, hgd]
  rw [if_pos hw]
  have hr := run_append_owned_none (P := P) (w := w) base t o.type e i size ht hi v n xs hown
  unfold Oper.wp execOp
  simp only [ho, resolve, invoke, builtin, Sem.run_bind, Sem.run_pure, Result.andThen_ok, List.map_toArray, List.map_cons, List.map_nil, hs, hx, hr]
  exact h

set_option maxRecDepth 100000 in
set_option maxHeartbeats 40000000 in
theorem halves47 (b o n cap thr bud : Nat) (vs : List Vt) (hvs : vs.length = n) (hn1 : 1 ≤ n) (hn : n ≤ 34) (hcap : n ≤ cap) (ht1 : 1 ≤ thr) (hthr : U thr) (hbud : bud < 18446744073709551615)
    (hpos : ∀ v ∈ vs, U v.w ∧ U v.c) (m0 : List Bool) (hfeas : Feas vs thr bud m0) (w : World) (hb : b < w.heap.size) (hcell : ∀ i v, vs[i]? = some v → VtAt w b o i v) :
    Calls Try.prog 47 #[.slice (some ⟨b, o, none⟩) n cap, .int .u64 thr, .int .u64 bud] w
      fun e w' => ∃ r m, e = .returned r ∧ IsFirst vs thr bud m ∧ w'.ownsRow w.heap.size 9 1 r (sel vs m).length (idCells (sel vs m)) ∧ Below w.heap.size w w' := by
  unfold U at hthr
  obtain ⟨i9, hi9, hz90, hz91, hz92⟩ := info_parts info9
  obtain ⟨over, hover⟩ : ∃ over, over = bud + 1 := ⟨_, rfl⟩
  have eo : (bud : Int) + 1 = (over : Int) := by omega
  have HOV : Hid (over = bud + 1) := hover
  have hou : over ≤ 18446744073709551615 := by omega
  have hbo : bud < over := by omega
  clear hover
  obtain ⟨h1, hh1⟩ : ∃ h1, h1 = n / 2 := ⟨_, rfl⟩
  obtain ⟨h2, hh2⟩ : ∃ h2, h2 = n - h1 := ⟨_, rfl⟩
  have eh : (n : Int) / 2 = (h1 : Int) := by omega
  have hl1 : h1 ≤ 17 := by omega
  have hl2 : h2 ≤ 17 := by omega
  have hl3 : h1 < n := by omega
  have HH : Hid (n = h1 + h2) := by show _ = _; omega
  have HL1 : Hid ((vs.take h1).length = h1) := by show _ = _; rw [List.length_take]; omega
  have HL2 : Hid ((vs.drop h1).length = h2) := by show _ = _; rw [List.length_drop]; omega
  have HF : Hid (Feas (vs.take h1 ++ vs.drop h1) thr bud m0) := by rw [List.take_append_drop]; exact hfeas
  have HV : Hid (vs.length = n) := hvs
  have HA : Hid (∀ W : World, Below w.heap.size w W → Calls Try.prog 50 #[.slice (some ⟨b, o, none⟩) h1 cap, .int .u64 thr, .int .u64 over] W
      fun e w' => ∃ Lb Hb L H S, e = .returned (.agg #[.slice (some ⟨b, o, none⟩) h1 cap, .slice (some ⟨Lb, 0, none⟩) (h1 + 1 : Nat) (h1 + 1 : Nat), .slice (some ⟨Hb, 0, none⟩) (h1 + 1 : Nat) (h1 + 1 : Nat)]) ∧ Lists h1 thr over (vs.take h1) S ∧ BySz w' Lb L (h1 + 1) S ∧ HvSz w' Hb H (h1 + 1) S ∧ Below W.heap.size W w') :=
    fun W hW => half50 b o h1 cap thr over (vs.take h1) HL1.out hl1 hthr hou (fun v hv => hpos v (List.mem_of_mem_take hv)) W (Nat.lt_of_lt_of_le hb hW.size) (fun i v hi => by
      have hlt := (List.getElem?_eq_some_iff.1 hi).1
      rw [HL1.out] at hlt
      rw [List.getElem?_take_of_lt hlt] at hi
      exact (hcell i v hi).below hW hb)
  have HBc : Hid (∀ W : World, Below w.heap.size w W → Calls Try.prog 50 #[.slice (some ⟨b, o + h1 * 3, none⟩) h2 (cap - h1), .int .u64 thr, .int .u64 over] W
      fun e w' => ∃ Lb Hb L H S, e = .returned (.agg #[.slice (some ⟨b, o + h1 * 3, none⟩) h2 (cap - h1), .slice (some ⟨Lb, 0, none⟩) (h2 + 1 : Nat) (h2 + 1 : Nat), .slice (some ⟨Hb, 0, none⟩) (h2 + 1 : Nat) (h2 + 1 : Nat)]) ∧ Lists h2 thr over (vs.drop h1) S ∧ BySz w' Lb L (h2 + 1) S ∧ HvSz w' Hb H (h2 + 1) S ∧ Below W.heap.size W w') :=
    fun W hW => half50 b (o + h1 * 3) h2 (cap - h1) thr over (vs.drop h1) HL2.out hl2 hthr hou (fun v hv => hpos v (List.mem_of_mem_drop hv)) W (Nat.lt_of_lt_of_le hb hW.size) (fun i v hi => by
      rw [List.getElem?_drop] at hi
      have := (hcell (h1 + i) v hi).below hW hb
      unfold VtAt at this ⊢
      rw [show o + (h1 + i) * 3 = o + h1 * 3 + i * 3 by omega] at this
      exact this)
  have en : n - h1 = h2 := hh2.symm
  have HC : Hid (∀ i v, vs[i]? = some v → VtAt w b o i v) := hcell
  clear hvs hfeas hpos hcell hh1 hh2
  have q0 : (0 : Int) ≤ (h1 : Int) := Int.natCast_nonneg _
  have q1 : (h1 : Int) ≤ (cap : Int) := by omega
  have q2 : (h1 : Int) ≤ (n : Int) := by omega
  have q3 : ¬ cap = h1 := by omega
  have q4 : ¬ cap = 0 := by omega
  have eh2 : Int.tdiv (n : Int) 2 = (h1 : Int) := by rw [Int.tdiv_eq_ediv_of_nonneg (by omega)]; exact eh
  have ehw : IntKind.i64.wrap (h1 : Int) = (h1 : Int) := by rw [IntKind.wrap_i64]; omega
  go_enter Try.func47, Try.ntmps47
  go_upto_region 2 with fail
  obtain ⟨W0, hW0⟩ : ∃ W0, W0 = (w.alloc (.cells #[.int .u64 thr] 23)).alloc (.cells #[.int .u64 bud] 23) := ⟨_, rfl⟩
  rw [← hW0]
  have HT4 : Hid (W0.heap[w.heap.size]? = some (.cells #[.int .u64 thr] 23 (0, 0))) := by rw [hW0, Below.heap_alloc _ _ _ (by simp)]; exact heap_alloc_new _ _
  have HT5 : Hid (W0.heap[w.heap.size + 1]? = some (.cells #[.int .u64 bud] 23 (0, 0))) := by rw [hW0]; exact new2 _ _ _
  have HW0 : Hid (Below w.heap.size w W0) := by rw [hW0]; exact ((Below.refl _ _).alloc (Nat.le_refl _) _).alloc (by simp) _
  obtain ⟨b4, hb4⟩ : ∃ b4, b4 = w.heap.size := ⟨_, rfl⟩
  obtain ⟨b5, hb5⟩ : ∃ b5, b5 = w.heap.size + 1 := ⟨_, rfl⟩
  rw [← hb5] at HT5 ⊢
  rw [← hb4] at HT4
  have e4 : some (⟨w.heap.size, 0, none⟩ : Addr) = some ⟨b4, 0, none⟩ := by rw [hb4]
  rw [e4]
  have hs0 := HW0.out.size
  obtain ⟨c4, _⟩ := at_one HT4.out
  have n4 := World.new_ne W0 _ c4
  clear hW0 hb4 hb5 e4
  go_cut [8] (fun p8 wx => ∃ bf L H C D S, p8 = .pointer (some ⟨bf, 0, none⟩) ∧ HalfAt wx bf b o h1 cap L H C D S (h1 + 1) thr over (vs.take h1) ∧ Below W0.heap.size W0 wx)
  case first => as_aux_lemma =>
    go_region_held3 (fun w' => w'.cell? ⟨b4, 0, none⟩ = some (.int .u64 thr)) (go_keep)
      (first | (go_at_call 50; refine (HA.out _ (by first | exact HW0.out.drew | exact (HW0.out.alloc hs0 _).drew)).mono ?_; rintro e w2 ⟨L1, H1, C1, D1, S1, rfl, li1, by1, hv1, hbe1⟩; have c4x := (hbe1.cell (World.block_lt_of_cell? _ _ (by assumption))).trans (by assumption); try (have kz : w2.heap[W0.heap.size]? = some (.cells #[.slice none 0 0, .slice none 0 0, .slice none 0 0] 97 (0, 0)) := (hbe1.block _ (by simp)).trans (heap_alloc_new W0 _); obtain ⟨k0, k1, k2⟩ := at_three kz; obtain ⟨j0, j1, j2⟩ := fz_three kz)) | fail)
    all_goals
      go_wp2_with fail
      go_meet
      case rel =>
        first
          | exact ⟨_, L1, H1, C1, D1, S1, rfl, ⟨heap_alloc_new w2 _, by1.below ((Below.refl _ _).alloc (Nat.le_refl _) _), hv1.below ((Below.refl _ _).alloc (Nat.le_refl _) _), li1⟩, ((Below.refl _ W0).drew.trans hbe1).alloc hbe1.size _⟩
          | (obtain ⟨r6, roff⟩ := three_set (.slice (some ⟨b, o, none⟩) h1 cap) (.slice (some ⟨L1, 0, none⟩) (h1 + 1) (h1 + 1)) (.slice (some ⟨H1, 0, none⟩) (h1 + 1) (h1 + 1)) kz
             exact ⟨_, L1, H1, C1, D1, S1, rfl, ⟨r6, bySz_off by1 kz roff, hv1.off kz roff, li1⟩, below_setCell (below_setCell (below_setCell (((Below.refl _ W0).alloc (Nat.le_refl _) _).drew.trans (hbe1.mono (by simp))) (Nat.le_refl _) _) (Nat.le_refl _) _) (Nat.le_refl _) _⟩)
  case rest => as_aux_lemma =>
    obtain ⟨bf, L1, H1, C1, D1, S1, rfl, hf, hbc⟩ := hcut
    obtain ⟨W1, rfl⟩ : ∃ x : World, x = wc := ⟨_, rfl⟩
    have HW1 : Hid (Below w.heap.size w W1) := HW0.out.trans (hbc.mono hs0)
    have HT41 : Hid (W1.heap[b4]? = some (.cells #[.int .u64 thr] 23 (0, 0))) := (hbc.block _ (lt_of_some HT4.out)).trans HT4.out
    have HT51 : Hid (W1.heap[b5]? = some (.cells #[.int .u64 bud] 23 (0, 0))) := (hbc.block _ (lt_of_some HT5.out)).trans HT5.out
    have HHF : Hid (HalfAt W1 bf b o h1 cap L1 H1 C1 D1 S1 (h1 + 1) thr over (vs.take h1)) := hf
    have hs1 := HW1.out.size
    clear c4 n4 hbc hf
    obtain ⟨c4, _⟩ := at_one HT41.out
    have n4 := World.new_ne W1 _ c4
    go_upto_region 3 with fail
    go_cut [9] (fun p8 wx => ∃ bf L H C D S, p8 = .pointer (some ⟨bf, 0, none⟩) ∧ HalfAt wx bf b (o + h1 * 3) h2 (cap - h1) L H C D S (h2 + 1) thr over (vs.drop h1) ∧ Below W1.heap.size W1 wx)
    case first => as_aux_lemma =>
      go_region_held3 (fun w' => w'.cell? ⟨b4, 0, none⟩ = some (.int .u64 thr)) (go_keep)
        (first | (go_at_call 50; refine (HBc.out _ (by first | exact HW1.out.drew | exact (HW1.out.alloc hs1 _).drew)).mono ?_; rintro e w2 ⟨L2, H2, C2, D2, S2, rfl, li1, by1, hv1, hbe1⟩; have c4x := (hbe1.cell (World.block_lt_of_cell? _ _ (by assumption))).trans (by assumption); try (have kz : w2.heap[W1.heap.size]? = some (.cells #[.slice none 0 0, .slice none 0 0, .slice none 0 0] 97 (0, 0)) := (hbe1.block _ (by simp)).trans (heap_alloc_new W1 _); obtain ⟨k0, k1, k2⟩ := at_three kz; obtain ⟨j0, j1, j2⟩ := fz_three kz)) | fail)
      all_goals
        go_wp2_with fail
        go_meet
        case rel =>
          first
            | exact ⟨_, L2, H2, C2, D2, S2, rfl, ⟨heap_alloc_new w2 _, by1.below ((Below.refl _ _).alloc (Nat.le_refl _) _), hv1.below ((Below.refl _ _).alloc (Nat.le_refl _) _), li1⟩, ((Below.refl _ W1).drew.trans hbe1).alloc hbe1.size _⟩
            | (obtain ⟨r6, roff⟩ := three_set (.slice (some ⟨b, o + h1 * 3, none⟩) h2 (cap - h1)) (.slice (some ⟨L2, 0, none⟩) (h2 + 1) (h2 + 1)) (.slice (some ⟨H2, 0, none⟩) (h2 + 1) (h2 + 1)) kz
               exact ⟨_, L2, H2, C2, D2, S2, rfl, ⟨r6, bySz_off by1 kz roff, hv1.off kz roff, li1⟩, below_setCell (below_setCell (below_setCell (((Below.refl _ W1).alloc (Nat.le_refl _) _).drew.trans (hbe1.mono (by simp))) (Nat.le_refl _) _) (Nat.le_refl _) _) (Nat.le_refl _) _⟩)
    case rest => as_aux_lemma =>
      obtain ⟨bs, L2, H2, C2, D2, S2, rfl, hf, hbc⟩ := hcut
      obtain ⟨W2, rfl⟩ : ∃ x : World, x = wc := ⟨_, rfl⟩
      have HW2 : Hid (Below w.heap.size w W2) := HW1.out.trans (hbc.mono hs1)
      have HT42 : Hid (W2.heap[b4]? = some (.cells #[.int .u64 thr] 23 (0, 0))) := (hbc.block _ (lt_of_some HT41.out)).trans HT41.out
      have HT52 : Hid (W2.heap[b5]? = some (.cells #[.int .u64 bud] 23 (0, 0))) := (hbc.block _ (lt_of_some HT51.out)).trans HT51.out
      have HF1 : Hid (HalfAt W2 bf b o h1 cap L1 H1 C1 D1 S1 (h1 + 1) thr over (vs.take h1)) := HHF.out.below hbc
      have HF2 : Hid (HalfAt W2 bs b (o + h1 * 3) h2 (cap - h1) L2 H2 C2 D2 S2 (h2 + 1) thr over (vs.drop h1)) := hf
      clear c4 n4 hbc hf HHF HT4 HT5 HT41 HT51 HW0 HW1 HA HBc hs0 hs1
      have HS1 : Hid (S1.length = h1 + 1) := by
        have := HF1.out.li.1
        rw [HL1.out] at this
        exact this
      have HS2 : Hid (S2.length = h2 + 1) := by
        have := HF2.out.li.1
        rw [HL2.out] at this
        exact this
      obtain ⟨N1, hN1⟩ : ∃ N1, N1 = h1 + 1 := ⟨_, rfl⟩
      obtain ⟨N2, hN2⟩ : ∃ N2, N2 = h2 + 1 := ⟨_, rfl⟩
      rw [← hN1] at HF1
      rw [← hN2] at HF2
      have HN1 : Hid (N1 = h1 + 1) := hN1
      have HN2 : Hid (N2 = h2 + 1) := hN2
      clear hN1 hN2
      have HMt : Hid (Mt W2 bs bf b5 b4 thr bud L1 L2 H2 N1 N2 (.slice (some ⟨b, o, none⟩) h1 cap) (.slice (some ⟨b, o + h1 * 3, none⟩) h2 (cap - h1)) (.slice (some ⟨H1, 0, none⟩) N1 N1)) := ⟨HF2.out.blk, HF1.out.blk, HT52.out, HT42.out⟩
      go_wp2_with fail
      go_loopw [11, 12] (fun sv fv wq => ∃ (z : Nat) (fd : Bool), z ≤ n ∧ sv = .int .i64 z ∧ fv = .bool fd ∧ NoUpTo thr bud S1 S2 z ∧ (fd = false → NoUpTo thr bud S1 S2 (z + 1)) ∧ (fd = true → ∃ j k, j + k = z ∧ Fit2 thr bud S1 S2 j k) ∧ Below W2.heap.size W2 wq) (fun sv fv _ => n - (intOf sv).toNat)
      case atStart => exact ⟨0, false, Nat.zero_le _, by go_num, rfl, fun j k h => absurd h (by omega), fun _ => no_zero HF1.out.li HF2.out.li ht1, fun h => absurd h (by simp), Below.refl _ _⟩
      case round => as_aux_lemma =>
        obtain ⟨z0, fd, hz0, rfl, rfl, hno, hfa, htr, hbel⟩ := hrel
        have HBL : Hid (Below W2.heap.size W2 wr) := hbel
        obtain ⟨cs0, _, _⟩ := at_three ((hbel.block _ (lt_of_some HF2.out.blk)).trans HF2.out.blk)
        obtain ⟨cf0, _, _⟩ := at_three ((hbel.block _ (lt_of_some HF1.out.blk)).trans HF1.out.blk)
        cases fd with
        | false =>
          have HNO : Hid (NoUpTo thr bud S1 S2 (z0 + 1)) := hfa rfl
          have hzn : z0 < n := by
            rcases Nat.lt_or_ge z0 n with h | h
            · exact h
            · as_aux_lemma =>
                exfalso
                refine some_upto hbo (by rw [HL1.out]; exact HF1.out.li) (by rw [HL2.out]; exact HF2.out.li) m0 HF.out ?_
                rw [HL1.out, HL2.out, ← HH.out, show n = z0 by omega]
                exact HNO.out
          obtain ⟨z, hz⟩ : ∃ z, z = z0 + 1 := ⟨_, rfl⟩
          have ez : (z0 : Int) + 1 = (z : Int) := by omega
          have hzn2 : z ≤ n := by omega
          have hzm : z ≤ 34 := by omega
          have HZ : Hid (z = z0 + 1) := hz
          rw [← hz] at HNO
          clear hno hfa htr hbel hz hzn hz0
          go_upto_region 11 with fail
          go_cut [13] (fun jv wx => jv = .int .i64 ((z - h2 : Nat) : Int) ∧ wr = wx)
          case first => as_aux_lemma =>
            by_cases hcz : h2 < z
            · go_wp2_with fail
              go_meet
              case rel => exact ⟨by go_num, rfl⟩
            · go_wp2_with fail
              go_meet
              case rel => exact ⟨by go_num, rfl⟩
          case rest => as_aux_lemma =>
            obtain ⟨rfl, rfl⟩ := hcut
            clear cs0 cf0
            go_wp2_with fail
            go_loopw [12, 13] (fun fv jv wq => ∃ (jj : Nat) (fd : Bool), z - h2 ≤ jj ∧ jv = .int .i64 jj ∧ fv = .bool fd ∧ (fd = false → ∀ j, z - h2 ≤ j → j < jj → ¬ Fit2 thr bud S1 S2 j (z - j)) ∧ (fd = true → ∃ j k, j + k = z ∧ Fit2 thr bud S1 S2 j k) ∧ Below W2.heap.size W2 wq) (fun _ jv _ => h1 + 1 - (intOf jv).toNat)
            case atStart => exact ⟨z - h2, false, Nat.le_refl _, rfl, rfl, fun _ j h1 h2 => absurd h2 (by omega), fun h => absurd h (by simp), HBL.out⟩
            case round => as_aux_lemma =>
              obtain ⟨jj, fd, hjl, rfl, rfl, hfa, htr, hbel⟩ := hrel
              have HFA : Hid (fd = false → ∀ j, z - h2 ≤ j → j < jj → ¬ Fit2 thr bud S1 S2 j (z - j)) := hfa
              have HTR : Hid (fd = true → ∃ j k, j + k = z ∧ Fit2 thr bud S1 S2 j k) := htr
              have HBJ : Hid (Below W2.heap.size W2 wr) := hbel
              obtain ⟨cf0, _, _⟩ := at_three ((hbel.block _ (lt_of_some HF1.out.blk)).trans HF1.out.blk)
              clear hfa htr hbel
              go_upto_region 12 with fail
              go_cut [69] (fun bv wx => ∃ bb : Bool, bv = .bool bb ∧ (bb = true ↔ ((jj ≤ z ∧ jj ≤ h1) ∧ fd = false)) ∧ wr = wx)
              case first => as_aux_lemma =>
                have key : ∃ mn, mn = min z h1 := ⟨_, rfl⟩
                rcases Nat.lt_trichotomy z h1 with hc | hc | hc
                · as_aux_lemma =>
                    by_cases hj : jj ≤ z
                    all_goals
                      cases fd
                      all_goals
                        go_wp2_with fail
                        go_meet
                        case rel => exact ⟨_, rfl, by simp <;> omega, rfl⟩
                · as_aux_lemma =>
                    subst hc
                    by_cases hj : jj ≤ z
                    all_goals
                      cases fd
                      all_goals
                        go_wp2_with fail
                        go_meet
                        case rel => exact ⟨_, rfl, by simp <;> omega, rfl⟩
                · as_aux_lemma =>
                    by_cases hj : jj ≤ h1
                    all_goals
                      cases fd
                      all_goals
                        go_wp2_with fail
                        go_meet
                        case rel => exact ⟨_, rfl, by simp <;> omega, rfl⟩
              case rest => as_aux_lemma =>
                obtain ⟨bb, rfl, hbb, rfl⟩ := hcut
                clear cf0
                cases bb with
                | true =>
                  obtain ⟨⟨hj1, hj2⟩, rfl⟩ := hbb.1 rfl
                  obtain ⟨kz, hkz⟩ : ∃ kz, kz = z - jj := ⟨_, rfl⟩
                  have ekz : (z : Int) - (jj : Int) = (kz : Int) := by omega
                  obtain ⟨T1, e1⟩ : ∃ T1, S1[jj]? = some T1 := ⟨_, List.getElem?_eq_getElem (by rw [HS1.out]; omega)⟩
                  obtain ⟨T2, e2⟩ : ∃ T2, S2[kz]? = some T2 := ⟨_, List.getElem?_eq_getElem (by rw [HS2.out]; omega)⟩
                  have HE1 : Hid (S1[jj]? = some T1) := e1
                  have HE2 : Hid (S2[kz]? = some T2) := e2
                  have HKZ : Hid (kz = z - jj) := hkz
                  have HMC : Hid (Calls Try.prog 51 #[.int .i64 jj, .int .i64 kz, .pointer (some ⟨bs, 0, none⟩), .pointer (some ⟨bf, 0, none⟩), .pointer (some ⟨b5, 0, none⟩), .pointer (some ⟨b4, 0, none⟩)] wr
                      fun e w' => ∃ r : Bool, e = .returned (.bool r) ∧ (r = true → ∃ s ∈ T1, ∃ t ∈ T2, Fits thr bud s t) ∧ (r = false → None thr bud T1 T2) ∧ Below wr.heap.size wr w') :=
                    meets51 jj kz bs bf b5 b4 thr bud L1 L2 H2 N1 N2 _ _ _ S1 S2 C1 C2 D2 T1 T2 wr (HMt.out.below HBJ.out) (HF1.out.by_.below HBJ.out) (HF2.out.by_.below HBJ.out) (HF2.out.hv.below HBJ.out) e1 e2
                      (HF1.out.li.2 jj T1 e1).1 (HF2.out.li.2 kz T2 e2).1 (good_of HF1.out.li (by rw [HL1.out]; exact Nat.le_refl _) hl1 e1).1 (good_of HF2.out.li (by rw [HL2.out]; exact Nat.le_refl _) hl2 e2).1
                      (fun s hs => ((good_of HF1.out.li (by rw [HL1.out]; exact Nat.le_refl _) hl1 e1).2 s hs).2.1) (by unfold U; omega) hthr (by have := HN1.out; omega) (by have := HN2.out; omega) (by have := HN1.out; omega) (by have := HN2.out; omega)
                  clear e1 e2 hkz hbb
                  go_wp2_with (first | (go_at_call 51; refine HMC.out.mono ?_; rintro e w5 ⟨r, rfl, hr1, hr2, hb5⟩) | fail)
                  go_roundw
                  case rel =>
                    refine ⟨jj + 1, r, by omega, by go_num, rfl, fun hr j h1 h2 => ?_, fun hr => ?_, HBJ.out.trans (hb5.mono HBJ.out.size)⟩
                    · as_aux_lemma =>
                        rcases Nat.lt_or_ge j jj with h | h
                        · exact HFA.out (by trivial) j h1 h
                        · obtain rfl : j = jj := by omega
                          have := none_fit2 HE1.out HE2.out (hr2 hr)
                          rwa [HKZ.out] at this
                    · obtain ⟨s, hs, t, ht, hf⟩ := hr1 hr
                      exact ⟨jj, kz, by have := HKZ.out; omega, T1, T2, s, t, HE1.out, HE2.out, hs, ht, hf⟩
                  case measure => simp [intOf]; omega
                | false =>
                  have hex : fd = false → ¬ (jj ≤ z ∧ jj ≤ h1) := fun hf hj => by
                    have := hbb.2 ⟨hj, hf⟩
                    simp at this
                  have HEX : Hid (fd = false → ¬ (jj ≤ z ∧ jj ≤ h1)) := hex
                  clear hex hbb
                  go_wp2
                  go_roundw
                  case rel => exact ⟨z, fd, hzn2, by go_num, rfl, HNO.out, fun hf => upto_next HS1.out HS2.out HNO.out (HFA.out hf) (HEX.out hf), HTR.out, HBJ.out⟩
                  case measure => simp [intOf]; have := HZ.out; omega
        | true =>
          have HNO : Hid (NoUpTo thr bud S1 S2 z0) := hno
          have HFT : Hid (∃ j k, j + k = z0 ∧ Fit2 thr bud S1 S2 j k) := htr rfl
          obtain ⟨z, hz⟩ : ∃ z, z = z0 := ⟨_, rfl⟩
          rw [← hz] at HNO HFT hz0 ⊢
          clear hno hfa htr hz
          obtain ⟨wo, rfl⟩ : ∃ x : World, x = wr := ⟨_, rfl⟩
          go_upto_region 17 with fail
          obtain ⟨W3, hW3⟩ : ∃ W3, W3 = wo.alloc (.cells #[.int .u64 0, .int .u64 0, .int .u64 0] 101) := ⟨_, rfl⟩
          rw [← hW3]
          have HTB3 : Hid (W3.heap[wo.heap.size]? = some (.cells #[.int .u64 (0 : Nat), .int .u64 (0 : Nat), .int .u64 (0 : Nat)] 101 (0, 0))) := by rw [hW3]; exact heap_alloc_new _ _
          have HB3 : Hid (Below wo.heap.size wo W3) := by rw [hW3]; exact (Below.refl _ _).alloc (Nat.le_refl _) _
          obtain ⟨tb, htb⟩ : ∃ tb, tb = wo.heap.size := ⟨_, rfl⟩
          rw [← htb] at HTB3 ⊢
          have HTBE : Hid (tb = wo.heap.size) := htb
          clear hW3 htb
          have cs0' := (HB3.out.cell (World.block_lt_of_cell? wo _ cs0)).trans cs0
          clear cs0 cf0 hbel
          go_cut [16] (fun jv wx => jv = .int .i64 ((z - h2 : Nat) : Int) ∧ W3 = wx)
          case first => as_aux_lemma =>
            by_cases hcz : h2 < z
            · go_wp2_with fail
              go_meet
              case rel => exact ⟨by go_num, rfl⟩
            · go_wp2_with fail
              go_meet
              case rel => exact ⟨by go_num, rfl⟩
          case rest => as_aux_lemma =>
            obtain ⟨rfl, rfl⟩ := hcut
            clear cs0'
            go_wp2_with fail
            go_loopw [15, 16] (fun cv jv wq => ∃ (jj : Nat) (tk : Sb) (cm : Int), z - h2 ≤ jj ∧ cv = .int .i64 cm ∧ jv = .int .i64 jj ∧ Best thr bud S1 S2 z h2 jj 0 tk cm ∧ wq.heap[tb]? = some (.cells #[.int .u64 tk.m, .int .u64 tk.w, .int .u64 tk.c] 101 (0, 0)) ∧ Below wo.heap.size wo wq) (fun _ jv _ => h1 + 1 - (intOf jv).toNat)
            case atStart => exact ⟨z - h2, ⟨0, 0, 0⟩, -1, Nat.le_refl _, rfl, rfl, best_start thr bud S1 S2 z h2 _, HTB3.out, HB3.out⟩
            case round => as_aux_lemma =>
              clear HTB3 HB3
              obtain ⟨jj, tk, cm, hjl, rfl, rfl, hbest, htk, hbel⟩ := hrel
              have HBS0 : Hid (Best thr bud S1 S2 z h2 jj 0 tk cm) := hbest
              have HTK0 : Hid (wr.heap[tb]? = some (.cells #[.int .u64 tk.m, .int .u64 tk.w, .int .u64 tk.c] 101 (0, 0))) := htk
              have HBJ : Hid (Below wo.heap.size wo wr) := hbel
              have hbel2 : Below W2.heap.size W2 wr := HBL.out.trans (hbel.mono HBL.out.size)
              obtain ⟨cf0, _, _⟩ := at_three ((hbel2.block _ (lt_of_some HF1.out.blk)).trans HF1.out.blk)
              have HBJ2 : Hid (Below W2.heap.size W2 wr) := hbel2
              clear hbest htk hbel hbel2
              go_upto_region 18 with fail
              go_cut [90] (fun bv wx => ∃ bb : Bool, bv = .bool bb ∧ (bb = true ↔ (jj ≤ z ∧ jj ≤ h1)) ∧ wr = wx)
              case first => as_aux_lemma =>
                have key : True := trivial
                rcases Nat.lt_trichotomy z h1 with hc | hc | hc
                · as_aux_lemma =>
                    by_cases hj : jj ≤ z
                    all_goals
                      go_wp2_with fail
                      go_meet
                      case rel => exact ⟨_, rfl, by simp <;> omega, rfl⟩
                · as_aux_lemma =>
                    subst hc
                    by_cases hj : jj ≤ z
                    all_goals
                      go_wp2_with fail
                      go_meet
                      case rel => exact ⟨_, rfl, by simp <;> omega, rfl⟩
                · as_aux_lemma =>
                    by_cases hj : jj ≤ h1
                    all_goals
                      go_wp2_with fail
                      go_meet
                      case rel => exact ⟨_, rfl, by simp <;> omega, rfl⟩
              case rest => as_aux_lemma =>
                obtain ⟨bb, rfl, hbb, rfl⟩ := hcut
                clear cf0
                cases bb with
                | true =>
                  obtain ⟨hj1, hj2⟩ := hbb.1 rfl
                  obtain ⟨kz, hkz⟩ : ∃ kz, kz = z - jj := ⟨_, rfl⟩
                  have ekz : (z : Int) - (jj : Int) = (kz : Int) := by omega
                  have hkl : kz ≤ h2 := by omega
                  obtain ⟨T1, e1⟩ : ∃ T1, S1[jj]? = some T1 := ⟨_, List.getElem?_eq_getElem (by rw [HS1.out]; omega)⟩
                  obtain ⟨T2, e2⟩ : ∃ T2, S2[kz]? = some T2 := ⟨_, List.getElem?_eq_getElem (by rw [HS2.out]; omega)⟩
                  have HE1 : Hid (S1[jj]? = some T1) := e1
                  have HE2 : Hid (S2[kz]? = some T2) := e2
                  have HKZ : Hid (kz = z - jj) := hkz
                  obtain ⟨g1, cp1, a1, a2, a3⟩ := (HF1.out.by_.below HBJ2.out).at_ jj T1 e1
                  obtain ⟨cA, _⟩ := (HF1.out.by_.below HBJ2.out).cells.cell a1
                  obtain ⟨_, f1, _⟩ := at_three ((HBJ2.out.block _ (lt_of_some HF1.out.blk)).trans HF1.out.blk)
                  obtain ⟨n1, hn1'⟩ : ∃ n1, n1 = T1.length := ⟨_, rfl⟩
                  rw [← hn1'] at cA
                  have HN1' : Hid (n1 = T1.length) := hn1'
                  have hn1m : n1 ≤ 131072 := by rw [hn1']; exact (good_of HF1.out.li (by rw [HL1.out]; exact Nat.le_refl _) hl1 e1).1
                  have HG1 : Hid (∀ s ∈ T1, qmN.Good thr over s) := (good_of HF1.out.li (by rw [HL1.out]; exact Nat.le_refl _) hl1 e1).2
                  obtain ⟨g1', cp1', a1', _, a3'⟩ := HF1.out.by_.at_ jj T1 e1
                  have hgg : g1' = g1 := by
                    rw [a1'] at a1
                    simp only [Option.some.injEq, Value.slice.injEq, Addr.mk.injEq] at a1
                    exact a1.1.1
                  have HR1 : Hid (RowSb W2 g1 T1) := by rw [← hgg]; exact a3'
                  have j0 : (0 : Int) ≤ (jj : Int) := Int.natCast_nonneg _
                  have j1 : (jj : Int) < (N1 : Int) := by have := HN1.out; omega
                  clear e1 e2 hkz hbb a1 a2 a3 a1' a3' hgg hn1'
                  go_wp2_with fail
                  go_loopw [102, 15] (fun iv cv wq => ∃ (i : Nat) (tk : Sb) (cm : Int), i ≤ n1 ∧ iv = .int .i64 i ∧ cv = .int .i64 cm ∧ Best thr bud S1 S2 z h2 jj i tk cm ∧ wq.heap[tb]? = some (.cells #[.int .u64 tk.m, .int .u64 tk.w, .int .u64 tk.c] 101 (0, 0)) ∧ Below wo.heap.size wo wq) (fun iv _ _ => n1 - (intOf iv).toNat)
                  case atStart => exact ⟨0, tk, cm, Nat.zero_le _, by go_num, rfl, HBS0.out, HTK0.out, HBJ.out⟩
                  case round => as_aux_lemma =>
                    clear HBS0 HTK0 HBJ HBJ2 cA f1
                    obtain ⟨i, tk, cm, hi, rfl, rfl, hbest, htk, hbel⟩ := hrel
                    have HBS : Hid (Best thr bud S1 S2 z h2 jj i tk cm) := hbest
                    by_cases hin : i < n1
                    · as_aux_lemma =>
                        obtain ⟨s, hs⟩ : ∃ s, T1[i]? = some s := ⟨_, List.getElem?_eq_getElem (by rw [← HN1'.out]; exact hin)⟩
                        have HS : Hid (T1[i]? = some s) := hs
                        have hsg := HG1.out s (List.mem_of_getElem? hs)
                        have hsw := hsg.2.1
                        have hbel2 : Below W2.heap.size W2 wr := HBL.out.trans (hbel.mono HBL.out.size)
                        obtain ⟨a0, a1, a2⟩ := (HR1.out.at_ i s hs).below hbel2 HR1.out.lt
                        rw [Nat.zero_add] at a0 a1 a2
                        have i0 : (0 : Int) ≤ (i : Int) := Int.natCast_nonneg _
                        have i1 : (i : Int) < (n1 : Int) := by omega
                        go_upto_region 24 with fail
                        obtain ⟨W, hW⟩ : ∃ W, W = wr.alloc (.cells #[.int .u64 s.m, .int .u64 s.w, .int .u64 s.c] 101) := ⟨_, rfl⟩
                        rw [← hW]
                        have hbW : Below wr.heap.size wr W := by rw [hW]; exact (Below.refl _ _).alloc (Nat.le_refl _) _
                        have HVB : Hid (W.heap[wr.heap.size]? = some (.cells #[.int .u64 s.m, .int .u64 s.w, .int .u64 s.c] 101 (0, 0))) := by rw [hW]; exact heap_alloc_new _ _
                        obtain ⟨vb, hvb⟩ : ∃ vb, vb = wr.heap.size := ⟨_, rfl⟩
                        rw [← hvb] at HVB ⊢
                        have HBW : Hid (Below wo.heap.size wo W) := hbel.trans (hbW.mono hbel.size)
                        have HTBW : Hid (W.heap[tb]? = some (.cells #[.int .u64 tk.m, .int .u64 tk.w, .int .u64 tk.c] 101 (0, 0))) := (hbW.block _ (lt_of_some htk)).trans htk
                        have hWW : Below W2.heap.size W2 W := hbel2.trans (hbW.mono hbel2.size)
                        have HT5W : Hid (W.heap[b5]? = some (.cells #[.int .u64 bud] 23 (0, 0))) := (hWW.block _ (lt_of_some HT52.out)).trans HT52.out
                        obtain ⟨c5, _⟩ := at_one HT5W.out
                        obtain ⟨v0, v1, v2⟩ := at_three HVB.out
                        obtain ⟨t0, t1, t2⟩ := at_three HTBW.out
                        clear hW hbW hvb a0 a1 a2 hbel hbel2 htk hs hsg hbest
                        by_cases hc : bud < s.c
                        · as_aux_lemma =>
                            go_wp2
                            go_roundw
                            case rel => exact ⟨i + 1, tk, cm, by omega, by go_num, rfl, best_skip HBS.out HE1.out HS.out (.inl (cpl_dear hc)), HTBW.out, HBW.out⟩
                            case measure => simp [intOf]; omega
                        · as_aux_lemma =>
                            by_cases hcm : cm = -1
                            · as_aux_lemma =>
                                subst hcm
                                go_upto_region 25 with fail
                                clear c5 v0 v1 v2 t0 t1 t2
                                obtain ⟨g2, cp2, b1, b2, b3⟩ := (HF2.out.by_.below hWW).at_ kz T2 HE2.out
                                obtain ⟨cB, _⟩ := (HF2.out.by_.below hWW).cells.cell b1
                                obtain ⟨_, s1, s2⟩ := at_three ((hWW.block _ (lt_of_some HF2.out.blk)).trans HF2.out.blk)
                                obtain ⟨n2, hn2⟩ : ∃ n2, n2 = T2.length := ⟨_, rfl⟩
                                rw [← hn2] at cB
                                have HN2' : Hid (n2 = T2.length) := hn2
                                have hn2m : n2 ≤ 131072 := by rw [hn2]; exact (good_of HF2.out.li (by rw [HL2.out]; exact Nat.le_refl _) hl2 HE2.out).1
                                have HR2 : Hid (RowSb W g2 T2) := b3
                                have k0 : (0 : Int) ≤ (kz : Int) := Int.natCast_nonneg _
                                have k1 : (kz : Int) < (N2 : Int) := by have := HN2.out; omega
                                clear b1 b2 b3 hn2
                                go_upto_region 26 with fail
                                obtain ⟨X, hX⟩ : ∃ X, X = W.alloc (.cells #[.slice (some ⟨g2, 0, none⟩) n2 cp2] 99) := ⟨_, rfl⟩
                                rw [← hX]
                                have hbX : Below W.heap.size W X := by rw [hX]; exact (Below.refl _ _).alloc (Nat.le_refl _) _
                                have x20 : X.heap[W.heap.size]? = some (.cells #[.slice (some ⟨g2, 0, none⟩) n2 cp2] 99 (0, 0)) := by rw [hX]; exact heap_alloc_new _ _
                                obtain ⟨c20, _⟩ := at_one x20
                                obtain ⟨c5X, _⟩ := at_one ((hbX.block _ (lt_of_some HT5W.out)).trans HT5W.out)
                                obtain ⟨_, _, c19⟩ := at_three ((hbX.block _ (lt_of_some HVB.out)).trans HVB.out)
                                have HSC : Hid (Calls Try.prog 52 #[.int .i64 n2, .func (.func 53) #[] #[.pointer (some ⟨W.heap.size, 0, none⟩), .pointer (some ⟨b5, 0, none⟩), .pointer (some ⟨vb, 0, none⟩)]] X
                                    fun e w' => ∃ r : Nat, r ≤ n2 ∧ e = .returned (.int .i64 r) ∧ (∀ i t, T2[i]? = some t → (t.c ≤ bud - s.c ↔ i < r)) ∧ Below X.heap.size X w') :=
                                  search52 g2 0 cp2 bud s.c W.heap.size b5 vb T2 n2 HN2'.out.symm (by omega) (by unfold U; omega) (by omega) (HF2.out.li.2 kz T2 HE2.out).1 X (fun t ht => by have := ((good_of HF2.out.li (by rw [HL2.out]; exact Nat.le_refl _) hl2 HE2.out).2 t ht).2.2; unfold U; omega) (fun _ => Nat.lt_of_lt_of_le HR2.out.lt hbX.size) c20 c5X c19 (fun i t ht => (HR2.out.below hbX).at_ i t ht)
                                obtain ⟨sb, hsb⟩ : ∃ sb, sb = W.heap.size := ⟨_, rfl⟩
                                rw [← hsb] at HSC c20 ⊢
                                have HBX : Hid (Below W.heap.size W X) := hbX
                                clear hX hbX x20 hsb cB s1 s2
                                go_upto_region 27 with (first | (go_at_call 52; refine HSC.out.mono ?_; rintro e w6 ⟨r, hrn, rfl, hwi, hb6⟩) | fail)
                                have hB6 : Below W.heap.size W w6 := HBX.out.trans (hb6.mono HBX.out.size)
                                have HWI : Hid (Within bud s T2 r) := hwi
                                have HW6 : Hid (Below wo.heap.size wo w6) := HBW.out.trans (hB6.mono HBW.out.size)
                                have HTB6 : Hid (w6.heap[tb]? = some (.cells #[.int .u64 tk.m, .int .u64 tk.w, .int .u64 tk.c] 101 (0, 0))) := (hB6.block _ (lt_of_some HTBW.out)).trans HTBW.out
                                have hv6 := (hB6.block _ (lt_of_some HVB.out)).trans HVB.out
                                clear c20 c5X c19 hwi hb6
                                have hH6 := HF2.out.hv.below (HBL.out.trans (HW6.out.mono HBL.out.size))
                                obtain ⟨g3, d1, d3⟩ := hH6.at_ kz T2 HE2.out
                                obtain ⟨cD, _⟩ := hH6.cells.cell d1
                                obtain ⟨_, _, s2⟩ := at_three (((HBL.out.trans (HW6.out.mono HBL.out.size)).block _ (lt_of_some HF2.out.blk)).trans HF2.out.blk)
                                obtain ⟨c4, _⟩ := at_one (((HBL.out.trans (HW6.out.mono HBL.out.size)).block _ (lt_of_some HT42.out)).trans HT42.out)
                                obtain ⟨y0, y1, y2⟩ := at_three hv6
                                rcases r with _ | r
                                · as_aux_lemma =>
                                    have dg : decide ((0 : Int) < ((0 : Nat) : Int)) = false := by decide
                                    go_quiet (fail)
                                    go_wp2
                                    go_roundw
                                    case rel => exact ⟨i + 1, tk, -1, by omega, by go_num, by go_num, best_skip HBS.out HE1.out HS.out (.inl (by rw [← HKZ.out]; exact cpl_none HE2.out HWI.out)), HTB6.out, HW6.out.trans ((qmS.below_drewN _ _).mono HW6.out.size)⟩
                                    case measure => simp [intOf]; omega
                                · rw [← HN2'.out] at d1 d3 cD
                                  obtain ⟨h3, _⟩ := d3.cell (j := r) (by omega)
                                  have HHV : Hid ((hvs 0 T2)[r]? = some ((hvs 0 T2).getD r 0)) := hvs_some (by rw [← HN2'.out]; omega)
                                  have HCI : Hid (thr - s.w ≤ (hvs 0 T2).getD r 0 ↔ Cpl thr bud S2 kz s) := cpl_iff HE2.out (by omega) HWI.out (by rw [← HN2'.out]; omega) HHV.out
                                  generalize (hvs 0 T2).getD r 0 = hv at *
                                  have eR : ((r + 1 : Nat) : Int) - 1 = (r : Int) := by omega
                                  have r0 : (0 : Int) ≤ (r : Int) := Int.natCast_nonneg _
                                  have r1 : (r : Int) < (n2 : Int) := by omega
                                  obtain ⟨rr, hrr⟩ : ∃ rr, rr = r + 1 := ⟨_, rfl⟩
                                  rw [← hrr]
                                  have eR2 : (rr : Int) - 1 = (r : Int) := by omega
                                  have r2 : (0 : Int) < (rr : Int) := by omega
                                  have r3 : 0 < rr := by omega
                                  have HRR : Hid (rr = r + 1) := hrr
                                  clear hrr eR d1 d3 HHV
                                  by_cases hh : thr - s.w ≤ hv
                                  · as_aux_lemma =>
                                      have hx2 : (thr : Int) - (s.w : Int) ≤ (hv : Int) := by omega
                                      obtain ⟨t0, t1, t2⟩ := at_three HTB6.out
                                      obtain ⟨f0, f1, f2⟩ := fz_three HTB6.out
                                      go_quiet (fail)
                                      go_wp2
                                      go_roundw
                                      case rel =>
                                        obtain ⟨r6, roff⟩ := three_set (.int .u64 s.m) (.int .u64 s.w) (.int .u64 s.c) (show (w6.drewN nq).heap[tb]? = _ from HTB6.out)
                                        refine ⟨i + 1, s, (r : Int) + 1, by omega, by go_num, by have := HRR.out; go_num, best_take HBS.out HE1.out HS.out hjl (by omega) (by rw [← HKZ.out]; exact HE2.out) (by rw [← HN2'.out]; omega) HWI.out (by rw [← HKZ.out]; exact HCI.out.1 hh) (.inl rfl), r6, ?_⟩
                                        exact below_setCell (below_setCell (below_setCell (HW6.out.trans ((qmS.below_drewN _ _).mono HW6.out.size)) (by show wo.heap.size ≤ tb; have := HTBE.out; omega) _) (by show wo.heap.size ≤ tb; have := HTBE.out; omega) _) (by show wo.heap.size ≤ tb; have := HTBE.out; omega) _
                                      case measure => simp [intOf]; omega
                                  · as_aux_lemma =>
                                      have hx2 : decide ((thr : Int) - (s.w : Int) ≤ (hv : Int)) = false := decide_eq_false (by omega)
                                      go_quiet (fail)
                                      go_wp2
                                      go_roundw
                                      case rel => exact ⟨i + 1, tk, -1, by omega, by go_num, by go_num, best_skip HBS.out HE1.out HS.out (.inl (by rw [← HKZ.out]; exact fun hcp => hh (HCI.out.2 hcp))), HTB6.out, HW6.out.trans ((qmS.below_drewN _ _).mono HW6.out.size)⟩
                                      case measure => simp [intOf]; omega
                            · as_aux_lemma =>
                                have hcm2 : (0 : Int) ≤ cm := by
                                  rcases HBS.out with ⟨h1', _⟩ | ⟨r, _, _, h1', _⟩
                                  · exact absurd h1' hcm
                                  · omega
                                by_cases hm : s.m < tk.m
                                · as_aux_lemma =>
                                    go_wp2
                                    go_roundw
                                    case rel => exact ⟨i + 1, tk, cm, by omega, by go_num, rfl, best_skip HBS.out HE1.out HS.out (.inr ⟨hcm, hm⟩), HTBW.out, HBW.out⟩
                                    case measure => simp [intOf]; omega
                                · as_aux_lemma =>
                                    go_upto_region 25 with fail
                                    clear c5 v0 v1 v2 t0 t1 t2
                                    obtain ⟨g2, cp2, b1, b2, b3⟩ := (HF2.out.by_.below hWW).at_ kz T2 HE2.out
                                    obtain ⟨cB, _⟩ := (HF2.out.by_.below hWW).cells.cell b1
                                    obtain ⟨_, s1, s2⟩ := at_three ((hWW.block _ (lt_of_some HF2.out.blk)).trans HF2.out.blk)
                                    obtain ⟨n2, hn2⟩ : ∃ n2, n2 = T2.length := ⟨_, rfl⟩
                                    rw [← hn2] at cB
                                    have HN2' : Hid (n2 = T2.length) := hn2
                                    have hn2m : n2 ≤ 131072 := by rw [hn2]; exact (good_of HF2.out.li (by rw [HL2.out]; exact Nat.le_refl _) hl2 HE2.out).1
                                    have HR2 : Hid (RowSb W g2 T2) := b3
                                    have k0 : (0 : Int) ≤ (kz : Int) := Int.natCast_nonneg _
                                    have k1 : (kz : Int) < (N2 : Int) := by have := HN2.out; omega
                                    clear b1 b2 b3 hn2
                                    go_upto_region 26 with fail
                                    obtain ⟨X, hX⟩ : ∃ X, X = W.alloc (.cells #[.slice (some ⟨g2, 0, none⟩) n2 cp2] 99) := ⟨_, rfl⟩
                                    rw [← hX]
                                    have hbX : Below W.heap.size W X := by rw [hX]; exact (Below.refl _ _).alloc (Nat.le_refl _) _
                                    have x20 : X.heap[W.heap.size]? = some (.cells #[.slice (some ⟨g2, 0, none⟩) n2 cp2] 99 (0, 0)) := by rw [hX]; exact heap_alloc_new _ _
                                    obtain ⟨c20, _⟩ := at_one x20
                                    obtain ⟨c5X, _⟩ := at_one ((hbX.block _ (lt_of_some HT5W.out)).trans HT5W.out)
                                    obtain ⟨_, _, c19⟩ := at_three ((hbX.block _ (lt_of_some HVB.out)).trans HVB.out)
                                    have HSC : Hid (Calls Try.prog 52 #[.int .i64 n2, .func (.func 53) #[] #[.pointer (some ⟨W.heap.size, 0, none⟩), .pointer (some ⟨b5, 0, none⟩), .pointer (some ⟨vb, 0, none⟩)]] X
                                        fun e w' => ∃ r : Nat, r ≤ n2 ∧ e = .returned (.int .i64 r) ∧ (∀ i t, T2[i]? = some t → (t.c ≤ bud - s.c ↔ i < r)) ∧ Below X.heap.size X w') :=
                                      search52 g2 0 cp2 bud s.c W.heap.size b5 vb T2 n2 HN2'.out.symm (by omega) (by unfold U; omega) (by omega) (HF2.out.li.2 kz T2 HE2.out).1 X (fun t ht => by have := ((good_of HF2.out.li (by rw [HL2.out]; exact Nat.le_refl _) hl2 HE2.out).2 t ht).2.2; unfold U; omega) (fun _ => Nat.lt_of_lt_of_le HR2.out.lt hbX.size) c20 c5X c19 (fun i t ht => (HR2.out.below hbX).at_ i t ht)
                                    obtain ⟨sb, hsb⟩ : ∃ sb, sb = W.heap.size := ⟨_, rfl⟩
                                    rw [← hsb] at HSC c20 ⊢
                                    have HBX : Hid (Below W.heap.size W X) := hbX
                                    clear hX hbX x20 hsb cB s1 s2
                                    go_upto_region 27 with (first | (go_at_call 52; refine HSC.out.mono ?_; rintro e w6 ⟨r, hrn, rfl, hwi, hb6⟩) | fail)
                                    have hB6 : Below W.heap.size W w6 := HBX.out.trans (hb6.mono HBX.out.size)
                                    have HWI : Hid (Within bud s T2 r) := hwi
                                    have HW6 : Hid (Below wo.heap.size wo w6) := HBW.out.trans (hB6.mono HBW.out.size)
                                    have HTB6 : Hid (w6.heap[tb]? = some (.cells #[.int .u64 tk.m, .int .u64 tk.w, .int .u64 tk.c] 101 (0, 0))) := (hB6.block _ (lt_of_some HTBW.out)).trans HTBW.out
                                    have hv6 := (hB6.block _ (lt_of_some HVB.out)).trans HVB.out
                                    clear c20 c5X c19 hwi hb6
                                    have hH6 := HF2.out.hv.below (HBL.out.trans (HW6.out.mono HBL.out.size))
                                    obtain ⟨g3, d1, d3⟩ := hH6.at_ kz T2 HE2.out
                                    obtain ⟨cD, _⟩ := hH6.cells.cell d1
                                    obtain ⟨_, _, s2⟩ := at_three (((HBL.out.trans (HW6.out.mono HBL.out.size)).block _ (lt_of_some HF2.out.blk)).trans HF2.out.blk)
                                    obtain ⟨c4, _⟩ := at_one (((HBL.out.trans (HW6.out.mono HBL.out.size)).block _ (lt_of_some HT42.out)).trans HT42.out)
                                    obtain ⟨y0, y1, y2⟩ := at_three hv6
                                    rcases r with _ | r
                                    · as_aux_lemma =>
                                        have dg : decide ((0 : Int) < ((0 : Nat) : Int)) = false := by decide
                                        go_quiet (fail)
                                        go_wp2
                                        go_roundw
                                        case rel => exact ⟨i + 1, tk, cm, by omega, by go_num, rfl, best_skip HBS.out HE1.out HS.out (.inl (by rw [← HKZ.out]; exact cpl_none HE2.out HWI.out)), HTB6.out, HW6.out.trans ((qmS.below_drewN _ _).mono HW6.out.size)⟩
                                        case measure => simp [intOf]; omega
                                    · rw [← HN2'.out] at d1 d3 cD
                                      obtain ⟨h3, _⟩ := d3.cell (j := r) (by omega)
                                      have HHV : Hid ((hvs 0 T2)[r]? = some ((hvs 0 T2).getD r 0)) := hvs_some (by rw [← HN2'.out]; omega)
                                      have HCI : Hid (thr - s.w ≤ (hvs 0 T2).getD r 0 ↔ Cpl thr bud S2 kz s) := cpl_iff HE2.out (by omega) HWI.out (by rw [← HN2'.out]; omega) HHV.out
                                      generalize (hvs 0 T2).getD r 0 = hv at *
                                      have eR : ((r + 1 : Nat) : Int) - 1 = (r : Int) := by omega
                                      have r0 : (0 : Int) ≤ (r : Int) := Int.natCast_nonneg _
                                      have r1 : (r : Int) < (n2 : Int) := by omega
                                      obtain ⟨rr, hrr⟩ : ∃ rr, rr = r + 1 := ⟨_, rfl⟩
                                      rw [← hrr]
                                      have eR2 : (rr : Int) - 1 = (r : Int) := by omega
                                      have r2 : (0 : Int) < (rr : Int) := by omega
                                      have r3 : 0 < rr := by omega
                                      have HRR : Hid (rr = r + 1) := hrr
                                      clear hrr eR d1 d3 HHV
                                      by_cases hh : thr - s.w ≤ hv
                                      · as_aux_lemma =>
                                          have hx2 : (thr : Int) - (s.w : Int) ≤ (hv : Int) := by omega
                                          obtain ⟨t0, t1, t2⟩ := at_three HTB6.out
                                          obtain ⟨f0, f1, f2⟩ := fz_three HTB6.out
                                          go_quiet (fail)
                                          go_wp2
                                          go_roundw
                                          case rel =>
                                            obtain ⟨r6, roff⟩ := three_set (.int .u64 s.m) (.int .u64 s.w) (.int .u64 s.c) (show (w6.drewN nq).heap[tb]? = _ from HTB6.out)
                                            refine ⟨i + 1, s, (r : Int) + 1, by omega, by go_num, by have := HRR.out; go_num, best_take HBS.out HE1.out HS.out hjl (by omega) (by rw [← HKZ.out]; exact HE2.out) (by rw [← HN2'.out]; omega) HWI.out (by rw [← HKZ.out]; exact HCI.out.1 hh) (.inr (by omega)), r6, ?_⟩
                                            exact below_setCell (below_setCell (below_setCell (HW6.out.trans ((qmS.below_drewN _ _).mono HW6.out.size)) (by show wo.heap.size ≤ tb; have := HTBE.out; omega) _) (by show wo.heap.size ≤ tb; have := HTBE.out; omega) _) (by show wo.heap.size ≤ tb; have := HTBE.out; omega) _
                                          case measure => simp [intOf]; omega
                                      · as_aux_lemma =>
                                          have hx2 : decide ((thr : Int) - (s.w : Int) ≤ (hv : Int)) = false := decide_eq_false (by omega)
                                          go_quiet (fail)
                                          go_wp2
                                          go_roundw
                                          case rel => exact ⟨i + 1, tk, cm, by omega, by go_num, rfl, best_skip HBS.out HE1.out HS.out (.inl (by rw [← HKZ.out]; exact fun hcp => hh (HCI.out.2 hcp))), HTB6.out, HW6.out.trans ((qmS.below_drewN _ _).mono HW6.out.size)⟩
                                          case measure => simp [intOf]; omega
                    · as_aux_lemma =>
                        obtain rfl : i = n1 := by omega
                        go_wp2
                        go_roundw
                        case rel => exact ⟨jj + 1, tk, cm, by omega, rfl, by go_num, best_row (T := T1) (by rw [← HN1'.out]; exact HBS.out) HE1.out, htk, hbel⟩
                        case measure => simp [intOf]; omega
                | false =>
                  have hex : ¬ (jj ≤ z ∧ jj ≤ h1) := fun hj => by
                    have := hbb.2 hj
                    simp at this
                  obtain ⟨r, j0, T1, T2, hcm, hj0z, e1, hmem, e2, hrl, hwi, hcp, hmax⟩ := best_end HS1.out HS2.out HBS0.out hex HFT.out
                  obtain ⟨x, hx1, hx2, hx3⟩ := ((HF1.out.li.2 j0 T1 e1).2.2 tk).1 hmem
                  rw [HL1.out] at hx1
                  have htm : tk.m = val x := by
                    rw [hx3]
                    simp [tri, hx1]
                  have htg := (good_of HF1.out.li (by rw [HL1.out]; exact Nat.le_refl _) hl1 e1).2 tk hmem
                  have htw := htg.2.1
                  obtain ⟨kz, hkz⟩ : ∃ kz, kz = z - j0 := ⟨_, rfl⟩
                  rw [← hkz] at e2 hcp
                  have ekz : (z : Int) - ((cnt x : Nat) : Int) = (kz : Int) := by rw [hx2]; omega
                  have hkl : kz < N2 := by
                    have h3 := (List.getElem?_eq_some_iff.1 e2).1
                    rw [HS2.out] at h3
                    have := HN2.out
                    omega
                  have hcb : tk.c ≤ bud := by
                    obtain ⟨_, t, _, _, hf⟩ := hcp
                    exact hf.1
                  obtain ⟨rr, hrr⟩ : ∃ rr, rr = r + 1 := ⟨_, rfl⟩
                  have hcm2 : cm = (rr : Int) := by omega
                  subst hcm2
                  obtain ⟨g2, cp2, b1, b2, b3⟩ := (HF2.out.by_.below HBJ2.out).at_ kz T2 e2
                  obtain ⟨cB, _⟩ := (HF2.out.by_.below HBJ2.out).cells.cell b1
                  obtain ⟨_, s1, _⟩ := at_three ((HBJ2.out.block _ (lt_of_some HF2.out.blk)).trans HF2.out.blk)
                  obtain ⟨n2, hn2⟩ : ∃ n2, n2 = T2.length := ⟨_, rfl⟩
                  rw [← hn2] at cB
                  have hn2m : n2 ≤ 131072 := by rw [hn2]; exact (good_of HF2.out.li (by rw [HL2.out]; exact Nat.le_refl _) hl2 e2).1
                  have HR2 : Hid (RowSb wr g2 T2) := b3
                  have k0 : (0 : Int) ≤ (kz : Int) := Int.natCast_nonneg _
                  have k1 : (kz : Int) < (N2 : Int) := by omega
                  have r0 : (0 : Int) ≤ (rr : Int) := Int.natCast_nonneg _
                  have r1 : (rr : Int) ≤ (cp2 : Int) := by omega
                  have r2 : ¬ cp2 = 0 := by omega
                  have hrr2 : rr ≤ n2 := by omega
                  have t0 : wr.cell? ⟨tb, 0, none⟩ = some (.int .u64 (val x : Nat)) := by rw [← htm]; exact (at_three HTK0.out).1
                  have HR : Hid (rr = r + 1 ∧ j0 ≤ z ∧ kz = z - j0 ∧ n2 = T2.length ∧ r < T2.length) := ⟨hrr, hj0z, hkz, hn2, hrl⟩
                  have HE1 : Hid (S1[j0]? = some T1) := e1
                  have HE2 : Hid (S2[kz]? = some T2) := e2
                  have HMEM : Hid (tk ∈ T1) := hmem
                  have HWI : Hid (Within bud tk T2 (r + 1)) := hwi
                  have HCP : Hid (Cpl thr bud S2 kz tk) := hcp
                  have HMAX : Hid (∀ j' k' T1' T2' s' t', j' + k' = z → S1[j']? = some T1' → S2[k']? = some T2' → s' ∈ T1' → t' ∈ T2' → Fits thr bud s' t' → s'.m ≤ tk.m) := hmax
                  clear hex hcm hj0z e1 hmem e2 hrl hwi hcp hmax hx2 hx3 htg hkz hrr b1 b2 b3 hn2 hbb
                  obtain ⟨wl, rfl⟩ : ∃ x : World, x = wr := ⟨_, rfl⟩
                  go_wp2_with (first | (go_at_call 54; refine (ones54 x (by omega) _).mono ?_; rintro e w' ⟨rfl, rfl⟩) | fail)
                  go_loopw [164, 23] (fun iv cv wq => ∃ i c : Nat, i ≤ rr ∧ iv = .int .i64 i ∧ cv = .int .u64 c ∧ Cmx thr bud tk T2 i c ∧ Below wl.heap.size wl wq) (fun iv _ _ => rr - (intOf iv).toNat)
                  case atStart => exact ⟨0, 0, Nat.zero_le _, by go_num, by go_num, cmx_zero _ _ _ _, Below.refl _ _⟩
                  case round => as_aux_lemma =>
                    clear cB s1 t0
                    obtain ⟨i, c, hi, rfl, rfl, hcx, hbel⟩ := hrel
                    have HCX : Hid (Cmx thr bud tk T2 i c) := hcx
                    clear hcx
                    by_cases hin : i < rr
                    · as_aux_lemma =>
                        obtain ⟨t, ht⟩ : ∃ t, T2[i]? = some t := ⟨_, List.getElem?_eq_getElem (by have := HR.out; omega)⟩
                        have HT : Hid (T2[i]? = some t) := ht
                        obtain ⟨a0, a1, a2⟩ := (HR2.out.at_ i t ht).below hbel HR2.out.lt
                        rw [Nat.zero_add] at a0 a1 a2
                        have i0 : (0 : Int) ≤ (i : Int) := Int.natCast_nonneg _
                        have i1 : (i : Int) < (rr : Int) := by omega
                        go_upto_region 35 with fail
                        obtain ⟨W, hW⟩ : ∃ W, W = wr.alloc (.cells #[.int .u64 t.m, .int .u64 t.w, .int .u64 t.c] 101) := ⟨_, rfl⟩
                        rw [← hW]
                        have hbW : Below wr.heap.size wr W := by rw [hW]; exact (Below.refl _ _).alloc (Nat.le_refl _) _
                        have hVB : W.heap[wr.heap.size]? = some (.cells #[.int .u64 t.m, .int .u64 t.w, .int .u64 t.c] 101 (0, 0)) := by rw [hW]; exact heap_alloc_new _ _
                        have HBW : Hid (Below wl.heap.size wl W) := hbel.trans (hbW.mono hbel.size)
                        obtain ⟨v0, v1, _⟩ := at_three hVB
                        obtain ⟨c4, _⟩ := at_one (((HBJ2.out.trans (HBW.out.mono HBJ2.out.size)).block _ (lt_of_some HT42.out)).trans HT42.out)
                        obtain ⟨_, t1, _⟩ := at_three ((HBW.out.block _ (lt_of_some HTK0.out)).trans HTK0.out)
                        clear hW hbW hVB a0 a1 a2 hbel ht
                        by_cases hw : thr - tk.w ≤ t.w
                        · as_aux_lemma =>
                            have HST := cmx_step HCX.out HT.out
                            rw [if_pos hw] at HST
                            have HST2 : Hid (Cmx thr bud tk T2 (i + 1) (max c t.m)) := HST
                            clear HST
                            by_cases hm : c < t.m
                            · as_aux_lemma =>
                                have e : max c t.m = t.m := by omega
                                rw [e] at HST2
                                go_wp2
                                go_roundw
                                case rel => exact ⟨i + 1, t.m, by omega, by go_num, rfl, HST2.out, HBW.out⟩
                                case measure => simp [intOf]; omega
                            · as_aux_lemma =>
                                have e : max c t.m = c := by omega
                                rw [e] at HST2
                                go_wp2
                                go_roundw
                                case rel => exact ⟨i + 1, c, by omega, by go_num, rfl, HST2.out, HBW.out⟩
                                case measure => simp [intOf]; omega
                        · as_aux_lemma =>
                            have HST := cmx_step HCX.out HT.out
                            rw [if_neg hw] at HST
                            have HST2 : Hid (Cmx thr bud tk T2 (i + 1) c) := HST
                            clear HST
                            go_wp2
                            go_roundw
                            case rel => exact ⟨i + 1, c, by omega, by go_num, rfl, HST2.out, HBW.out⟩
                            case measure => simp [intOf]; omega
                    · as_aux_lemma =>
                        obtain rfl : i = rr := by omega
                        obtain ⟨t, ht, hft, htc, hmx2⟩ := cmx_end HE2.out HWI.out HCP.out (by rw [← HR.out.1]; exact HCX.out) hcb
                        obtain ⟨x', y, hxl, hyl, hxm, hym, _, hfirst⟩ := halves_first hbo (a := vs.take h1) (b := vs.drop h1) (by rw [HL1.out]; exact HF1.out.li) (by rw [HL2.out]; exact HF2.out.li) z
                          (fun j' k' T1' T2' hlt a1 a2 s' hs' t' ht' hf' => HNO.out j' k' hlt ⟨T1', T2', s', t', a1, a2, hs', ht', hf'⟩) j0 kz (by have := HR.out; omega) T1 T2 HE1.out HE2.out tk t HMEM.out ht hft HMAX.out (fun t' ht' hf' => by rw [htc]; exact hmx2 t' ht' hf')
                        rw [List.take_append_drop] at hfirst
                        rw [HL1.out] at hxl
                        rw [HL2.out] at hyl
                        have hcy : c = val y := by rw [← htc]; exact hym
                        subst hcy
                        have hB2 : Below W2.heap.size W2 wr := HBJ2.out.trans (hbel.mono HBJ2.out.size)
                        have hBw : Below w.heap.size w wr := HW2.out.trans (hB2.mono HW2.out.size)
                        obtain ⟨f0, f1, f2⟩ := at_three ((hB2.block _ (lt_of_some HF1.out.blk)).trans HF1.out.blk)
                        obtain ⟨s0, s1, s2⟩ := at_three ((hB2.block _ (lt_of_some HF2.out.blk)).trans HF2.out.blk)
                        have t0 : wr.cell? ⟨tb, 0, none⟩ = some (.int .u64 (val x' : Nat)) := by rw [← hxm]; exact (at_three ((hbel.block _ (lt_of_some HTK0.out)).trans HTK0.out)).1
                        have HFI : Hid (IsFirst vs thr bud (x' ++ y)) := hfirst
                        have HSE : Hid (sel vs (x' ++ y) = sel (vs.take h1) x' ++ sel (vs.drop h1) y) := by
                          show _ = _
                          conv => lhs; arg 1; rw [← List.take_append_drop h1 vs]
                          exact sel_append _ _ _ _ (by rw [HL1.out]; exact hxl)
                        have HI1 : Hid (∀ W : World, Below w.heap.size w W → Calls Try.prog 55 #[.agg #[.slice (some ⟨b, o, none⟩) h1 cap, .slice (some ⟨L1, 0, none⟩) N1 N1, .slice (some ⟨H1, 0, none⟩) N1 N1], .int .u64 (val x' : Nat)] W
                            fun e w' => ∃ r, e = .returned r ∧ (sel (vs.take h1) x' = [] → r = .slice none 0 0) ∧ w'.ownsRow W.heap.size 9 1 r (sel (vs.take h1) x').length (idCells (sel (vs.take h1) x')) ∧ Below W.heap.size W w') :=
                          fun W hW => ids55b b o h1 cap _ _ (vs.take h1) x' HL1.out hxl hl1 W (Nat.lt_of_lt_of_le hb hW.size) (fun i v hi => by
                            have hlt := (List.getElem?_eq_some_iff.1 hi).1
                            rw [HL1.out] at hlt
                            rw [List.getElem?_take_of_lt hlt] at hi
                            exact (HC.out i v hi).below hW hb)
                        have HI2 : Hid (∀ W : World, Below w.heap.size w W → Calls Try.prog 55 #[.agg #[.slice (some ⟨b, o + h1 * 3, none⟩) h2 (cap - h1), .slice (some ⟨L2, 0, none⟩) N2 N2, .slice (some ⟨H2, 0, none⟩) N2 N2], .int .u64 (val y : Nat)] W
                            fun e w' => ∃ r, e = .returned r ∧ (sel (vs.drop h1) y = [] → r = .slice none 0 0) ∧ w'.ownsRow W.heap.size 9 1 r (sel (vs.drop h1) y).length (idCells (sel (vs.drop h1) y)) ∧ Below W.heap.size W w') :=
                          fun W hW => ids55b b (o + h1 * 3) h2 (cap - h1) _ _ (vs.drop h1) y HL2.out hyl hl2 W (Nat.lt_of_lt_of_le hb hW.size) (fun i v hi => by
                            rw [List.getElem?_drop] at hi
                            have := (HC.out (h1 + i) v hi).below hW hb
                            unfold VtAt at this ⊢
                            rw [show o + (h1 + i) * 3 = o + h1 * 3 + i * 3 by omega] at this
                            exact this)
                        have hBwd := hBw.drew
                        have HBW : Hid (Below w.heap.size w wr) := hBw
                        clear ht hft htc hmx2 hfirst hxm hym hB2 hBw hbel HCX
                        go_upto_region 38 with fail
                        have z0 := f0
                        have z1 := f1
                        have z2 := f2
                        have z3 := t0
                        have z4 := s0
                        have z5 := s1
                        have z6 := s2
                        have hA1 : (sel (vs.take h1) x').length ≤ 17 := by rw [sel_length _ _ (by rw [HL1.out, hxl])]; exact Nat.le_trans (cnt_le _) (by omega)
                        have hA2 : (sel (vs.drop h1) y).length ≤ 17 := by rw [sel_length _ _ (by rw [HL2.out, hyl])]; exact Nat.le_trans (cnt_le _) (by omega)
                        by_cases hE : sel (vs.drop h1) y = []
                        · as_aux_lemma =>
                            go_region_held3 (fun w' => w'.cell? ⟨bf, 0, none⟩ = some (.slice (some ⟨b, o, none⟩) h1 cap) ∧ w'.cell? ⟨bf, 1, none⟩ = some (.slice (some ⟨L1, 0, none⟩) N1 N1) ∧ w'.cell? ⟨bf, 2, none⟩ = some (.slice (some ⟨H1, 0, none⟩) N1 N1) ∧ w'.cell? ⟨tb, 0, none⟩ = some (.int .u64 (val x' : Nat)) ∧ w'.cell? ⟨bs, 0, none⟩ = some (.slice (some ⟨b, o + h1 * 3, none⟩) h2 (cap - h1)) ∧ w'.cell? ⟨bs, 1, none⟩ = some (.slice (some ⟨L2, 0, none⟩) N2 N2) ∧ w'.cell? ⟨bs, 2, none⟩ = some (.slice (some ⟨H2, 0, none⟩) N2 N2))
                              (go_keep)
                              (first | (have hq := hsec; refine step_append_none (by rfl) _ _ _ (by rfl) w.heap.size 9 i9 1 Try.underlying30 hi9 ra _ _ (by rfl) hO6 (by rfl) ?_) | (have hq := hfs; go_at_call 55; refine (HI2.out w5 hB5).mono ?_; rintro e w6 ⟨rb, rfl, hnb, hob, hb6⟩; have y0 := (hb6.cell (World.block_lt_of_cell? _ _ x0)).trans x0; have y1 := (hb6.cell (World.block_lt_of_cell? _ _ x1)).trans x1; have y2 := (hb6.cell (World.block_lt_of_cell? _ _ x2)).trans x2; have y3 := (hb6.cell (World.block_lt_of_cell? _ _ x3)).trans x3; have y4 := (hb6.cell (World.block_lt_of_cell? _ _ x4)).trans x4; have y5 := (hb6.cell (World.block_lt_of_cell? _ _ x5)).trans x5; have y6 := (hb6.cell (World.block_lt_of_cell? _ _ x6)).trans x6; have hB6 : Below w.heap.size w w6 := hB5.trans (hb6.mono hB5.size); have hOw : w6.ownsRow wr.heap.size 9 1 ra (sel (vs.take h1) x').length (idCells (sel (vs.take h1) x')) := own_below hoa hb6; have hO6 : w6.ownsRow w.heap.size 9 1 ra (sel (vs.take h1) x').length (idCells (sel (vs.take h1) x')) := own_less hOw HBW.out.size; have hsec : True := trivial; have hre := hnb hE; subst hre) | (go_at_call 55; refine (HI1.out wr.drew hBwd).mono ?_; rintro e w5 ⟨ra, rfl, hna, hoa, hb5⟩; have hfs : True := trivial; have x0 := (hb5.cell (World.block_lt_of_cell? _ _ z0)).trans z0; have x1 := (hb5.cell (World.block_lt_of_cell? _ _ z1)).trans z1; have x2 := (hb5.cell (World.block_lt_of_cell? _ _ z2)).trans z2; have x3 := (hb5.cell (World.block_lt_of_cell? _ _ z3)).trans z3; have x4 := (hb5.cell (World.block_lt_of_cell? _ _ z4)).trans z4; have x5 := (hb5.cell (World.block_lt_of_cell? _ _ z5)).trans z5; have x6 := (hb5.cell (World.block_lt_of_cell? _ _ z6)).trans z6; have hB5 : Below w.heap.size w w5 := hBwd.trans (hb5.mono hBwd.size)) | fail)
                            go_wp2
                            go_ret
                            refine ⟨_, x' ++ y, rfl, HFI.out, ?_, hB6⟩
                            rw [HSE.out, hE, List.append_nil]
                            exact hO6
                        · as_aux_lemma =>
                            have hE2 : 0 < (sel (vs.drop h1) y).length := List.length_pos_iff.2 hE
                            go_region_held3 (fun w' => w'.cell? ⟨bf, 0, none⟩ = some (.slice (some ⟨b, o, none⟩) h1 cap) ∧ w'.cell? ⟨bf, 1, none⟩ = some (.slice (some ⟨L1, 0, none⟩) N1 N1) ∧ w'.cell? ⟨bf, 2, none⟩ = some (.slice (some ⟨H1, 0, none⟩) N1 N1) ∧ w'.cell? ⟨tb, 0, none⟩ = some (.int .u64 (val x' : Nat)) ∧ w'.cell? ⟨bs, 0, none⟩ = some (.slice (some ⟨b, o + h1 * 3, none⟩) h2 (cap - h1)) ∧ w'.cell? ⟨bs, 1, none⟩ = some (.slice (some ⟨L2, 0, none⟩) N2 N2) ∧ w'.cell? ⟨bs, 2, none⟩ = some (.slice (some ⟨H2, 0, none⟩) N2 N2))
                              (go_keep)
                              (first | (have hq := hsec; refine step_append_lies _ (by rfl) _ _ _ (by rfl) w.heap.size 9 i9 _ 1 16 Try.underlying30 hi9 hz90 hz91 hz92 rfl (by omega) ra (sel (vs.take h1) x').length (idCells (sel (vs.take h1) x')) (by rfl) hO6 ⟨gx, 0, none⟩ (sel (vs.drop h1) y).length cpx (idCells (sel (vs.drop h1) y)) (by rfl) (by simp [idCells]) (fun j u hu => by rw [add_at, Nat.zero_add, hob.cellAt j (by have := (List.getElem?_eq_some_iff.1 hu).1; simpa [idCells] using this)]; exact hu) (by simp [idCells, Value.oneCell']) hE2 (by unfold maxLen; omega) (by omega) hB6.size w6.heap.size rfl ?_; intro g7 cap7 w7 hown7 hgrow7 hat7 hlt7; have hB7 : Below w.heap.size w w7 := hB6.trans (grown_below hgrow7 hB6.size (own_ge hO6)); have hbz : Below wr.heap.size w6 w7 := grown_below hgrow7 (Nat.le_trans (show wr.heap.size ≤ w5.heap.size from hb5.size) hb6.size) (own_ge hOw); have v0 := (hbz.cell (World.block_lt_of_cell? wr _ z0)).trans y0; have v1 := (hbz.cell (World.block_lt_of_cell? wr _ z1)).trans y1; have v2 := (hbz.cell (World.block_lt_of_cell? wr _ z2)).trans y2; have v3 := (hbz.cell (World.block_lt_of_cell? wr _ z3)).trans y3; have v4 := (hbz.cell (World.block_lt_of_cell? wr _ z4)).trans y4; have v5 := (hbz.cell (World.block_lt_of_cell? wr _ z5)).trans y5; have v6 := (hbz.cell (World.block_lt_of_cell? wr _ z6)).trans y6) | (have hq := hfs; go_at_call 55; refine (HI2.out w5 hB5).mono ?_; rintro e w6 ⟨rb, rfl, hnb, hob, hb6⟩; have y0 := (hb6.cell (World.block_lt_of_cell? _ _ x0)).trans x0; have y1 := (hb6.cell (World.block_lt_of_cell? _ _ x1)).trans x1; have y2 := (hb6.cell (World.block_lt_of_cell? _ _ x2)).trans x2; have y3 := (hb6.cell (World.block_lt_of_cell? _ _ x3)).trans x3; have y4 := (hb6.cell (World.block_lt_of_cell? _ _ x4)).trans x4; have y5 := (hb6.cell (World.block_lt_of_cell? _ _ x5)).trans x5; have y6 := (hb6.cell (World.block_lt_of_cell? _ _ x6)).trans x6; have hB6 : Below w.heap.size w w6 := hB5.trans (hb6.mono hB5.size); have hOw : w6.ownsRow wr.heap.size 9 1 ra (sel (vs.take h1) x').length (idCells (sel (vs.take h1) x')) := own_below hoa hb6; have hO6 : w6.ownsRow w.heap.size 9 1 ra (sel (vs.take h1) x').length (idCells (sel (vs.take h1) x')) := own_less hOw HBW.out.size; have hsec : True := trivial; have hobf := hob.form hE2; obtain ⟨gx, cpx, rfl, _, hgx⟩ := hobf) | (go_at_call 55; refine (HI1.out wr.drew hBwd).mono ?_; rintro e w5 ⟨ra, rfl, hna, hoa, hb5⟩; have hfs : True := trivial; have x0 := (hb5.cell (World.block_lt_of_cell? _ _ z0)).trans z0; have x1 := (hb5.cell (World.block_lt_of_cell? _ _ z1)).trans z1; have x2 := (hb5.cell (World.block_lt_of_cell? _ _ z2)).trans z2; have x3 := (hb5.cell (World.block_lt_of_cell? _ _ z3)).trans z3; have x4 := (hb5.cell (World.block_lt_of_cell? _ _ z4)).trans z4; have x5 := (hb5.cell (World.block_lt_of_cell? _ _ z5)).trans z5; have x6 := (hb5.cell (World.block_lt_of_cell? _ _ z6)).trans z6; have hB5 : Below w.heap.size w w5 := hBwd.trans (hb5.mono hBwd.size)) | fail)
                            go_wp2
                            go_ret
                            refine ⟨_, x' ++ y, rfl, HFI.out, ?_, hB7⟩
                            rw [HSE.out, List.length_append]
                            simpa [idCells] using hown7
end Go.Proofs.Qxb6608623a.qmK
