/- THE STATE OF THE RULES between two calls; the makers and readers of the shim. -/
import Derived.Test.Qxb6608516aAdL
import Derived.WalkLawsBesides
import Derived.Deep.RegionHeld3
import Derived.Deep.DrawnRows
import Derived.BigQuiet
import Derived.Deep.QuietTactic
namespace Go.Proofs.Qxb6608516a.adR
open Go.RowKit
open Go.Proofs.Qxb6608516a.Ad
open Go.Proofs.Qxb6608516a.adC
open Go.Proofs.Qxb6608516a.adH
open Go.Proofs.Qxb6608516a.adL (wpList_len_run step_len_run)
open Go.Proofs.Qxb6608516a.adM (SetIs vH vT Ok keyT keyH vH_inj vT_inj law63 law60)
set_option linter.unusedVariables false
attribute [local go_sem ↓] Go.wp_at_zero Go.wp_at_succ

/-- THE RULES AT R, over n categories, after the script S: they live in the blocks F, from block B on -/
def St (w : World) (B : Nat) (F : Nat → Prop) (R n : Nat) (S : List Stp) : Prop :=
  ∃ Hb mh mt, Ph w B w.heap.size F [] R n Hb mh mt (wildOf S) (holdersOf S) (repsOf S) (fun c => heldOf S c) S.length S S.length (targetsOf S) w ∧ ∀ b, F b → B ≤ b ∧ b < w.heap.size

/-- with nothing turned but blocks outside F the rules are as they were -/
theorem St.frame {w w' : World} {B : Nat} {F : Nat → Prop} {R n : Nat} {S : List Stp} (h : St w B F R n S) (hsz : w.heap.size ≤ w'.heap.size) (hb : ∀ b, F b → w'.heap[b]? = w.heap[b]?) : St w' B F R n S := by
  obtain ⟨Hb, mh, mt, ⟨ho, rp, hs, hF⟩, hB⟩ := h
  have hmem : ∀ b, G F w.heap.size b → b < w.heap.size → F b := fun b hg hl => by
    rcases hg with h1 | h1
    · exact h1
    · omega
  have hlt : ∀ {b : Nat} {o : Obj}, w.heap[b]? = some o → G F w.heap.size b → F b := fun hk hg => hmem _ hg (lt_of_some hk)
  obtain ⟨es1, k1, es2, k2, m1, m2⟩ := hF.core.maps
  have fR := hlt hF.core.hR hF.core.gR
  have fH := hlt hF.core.hH hF.core.gH
  have f1 := hlt m1 hF.core.gmh
  have f2 := hlt m2 hF.core.gmt
  have hc := hF.core.congr hsz (hb R fR) (hb Hb fH) (hb mh f1) (hb mt f2) (fun k cur e hk hg _ => hb k (hlt hk hg))
  have rwk : ∀ {e : TypeId} {size m : Nat} {v : Value} {cs : List Value}, Rw w B w.heap.size F [] e size v m cs → Rw w' B w.heap.size F [] e size v m cs → Rw w' B w'.heap.size F [] e size v m cs := fun h1 h2 =>
    ⟨h2.own, fun k hk => ⟨by
      obtain ⟨cur, hcur⟩ := own_block h1.own hk
      exact .inl (hlt hcur (h1.mine k hk).1), by simp⟩⟩
  refine ⟨Hb, mh, mt, ⟨ho, rp, hs, ⟨hc.hR, hc.hH, hc.len, rwk hF.core.oo hc.oo, rwk hF.core.orp hc.orp, fun c v hv => rwk (hF.core.oh c v hv) (hc.oh c v hv), hc.apart, .inl fR, .inl fH, .inl f1, .inl f2, fun x hx => by simp at hx, Nat.le_refl _, Nat.le_trans hc.bN hsz, hc.maps, hc.mne⟩,
    hF.sh.congr (hb mh f1), hF.st.congr (hb mt f2), Tch.refl _ _ _⟩, fun b hf => ⟨(hB b hf).1, Nat.lt_of_lt_of_le (hB b hf).2 hsz⟩⟩
theorem St.below {w w' : World} {B : Nat} {F : Nat → Prop} {R n : Nat} {S : List Stp} (h : St w B F R n S) (hb : Below w.heap.size w w') : St w' B F R n S := by
  obtain ⟨_, _, _, _, hB⟩ := id h
  exact h.frame hb.size (fun b hf => hb.block b (hB b hf).2)
theorem St.bN {w : World} {B : Nat} {F : Nat → Prop} {R n : Nat} {S : List Stp} (h : St w B F R n S) : B ≤ w.heap.size := by
  obtain ⟨Hb, mh, mt, ⟨ho, rp, hs, hF⟩, hB⟩ := h
  exact hF.core.bN

theorem info61 : (Try.prog.info? 61).map (fun i => (i.zero, i.size, i.bytes)) = some (some (.slice none 0 0), 1, 24) := by kernel_rfl

theorem made_cells (n : Nat) : (madeCells (Value.slice none 0 0).cells (n * 1)).toList = List.replicate n (.slice none 0 0) := by
  have h : (Value.slice none 0 0).cells = #[.slice none 0 0] := rfl
  rw [h, Nat.mul_one]
  unfold madeCells
  rw [Array.toList_map, Array.toList_range]
  apply List.ext_getElem
  · simp
  · intro i h1 h2
    simp [Nat.mod_one]

theorem rw_nil (w : World) (B N0 : Nat) (F : Nat → Prop) (e : TypeId) (size : Nat) : Rw w B N0 F [] e size (.slice none 0 0) 0 [] :=
  ⟨World.ownsRow_nil _ _ _ _, fun k hk => by simp [Value.ownBlock] at hk⟩

theorem st_new (w w1 : World) (n : Nat) (hown : w1.ownsRow w.heap.size 61 1 (.slice (some ⟨w.heap.size, 0, none⟩) n n) n (List.replicate n (.slice none 0 0))) (hg : w.grownBy w1 none)
    (W : World) (hW : W = ((w1.alloc (.map #[] 0)).alloc (.map #[] 0)).alloc (.cells (rcells n w.heap.size (.slice none 0 0) w1.heap.size (w1.heap.size + 1) false (.slice none 0 0)) 57)) :
    St W w.heap.size (fun b => w.heap.size ≤ b ∧ b < W.heap.size) (w1.heap.size + 1 + 1) n [] ∧ Below w.heap.size w W := by
  obtain ⟨_, ⟨h, _⟩ | ⟨g, cp, cur, h, _, hh, hle, _, hsz, ht⟩⟩ := hown
  · simp at h
  simp only [Value.slice.injEq, Option.some.injEq, Addr.mk.injEq] at h
  obtain ⟨⟨rfl, _⟩, _, rfl⟩ := h
  have hcur : cur = (List.replicate n (.slice none 0 0)).toArray := by
    apply Array.toList_inj.1
    rw [← ht]
    rw [List.take_of_length_le (by rw [Array.length_toList, hsz]; omega)]
  have hlt : w.heap.size < w1.heap.size := lt_of_some hh
  have b1 : Below w.heap.size w w1 := ⟨hg.os, hg.tape, hg.output, hg.size, fun k hk => hg.block k hk (by simp)⟩
  have s1 : (w1.alloc (.map #[] 0)).heap.size = w1.heap.size + 1 := by simp
  have s2 : ((w1.alloc (.map #[] 0)).alloc (.map #[] 0)).heap.size = w1.heap.size + 1 + 1 := by simp
  have s3 : W.heap.size = w1.heap.size + 1 + 1 + 1 := by rw [hW]; simp
  have bW : Below w.heap.size w W := by
    rw [hW]
    exact ((b1.alloc (by omega) _).alloc (by rw [s1]; omega) _).alloc (by rw [s2]; omega) _
  have eH : W.heap[w.heap.size]? = some (.cells (List.replicate n (.slice none 0 0)).toArray 61 (0, 0)) := by
    rw [hW, Below.heap_alloc _ _ _ (by rw [s2]; omega), Below.heap_alloc _ _ _ (by rw [s1]; omega), Below.heap_alloc _ _ _ hlt, ← hcur]; exact hh
  have eM : W.heap[w1.heap.size]? = some (.map #[] 0) := by
    rw [hW, Below.heap_alloc _ _ _ (by rw [s2]; omega), Below.heap_alloc _ _ _ (by rw [s1]; omega)]; exact heap_alloc_new _ _
  have eT : W.heap[w1.heap.size + 1]? = some (.map #[] 0) := by
    rw [hW, Below.heap_alloc _ _ _ (by rw [s2]; omega)]
    have := heap_alloc_new (w1.alloc (.map #[] 0)) (.map #[] 0)
    rw [s1] at this
    exact this
  have eR : W.heap[w1.heap.size + 1 + 1]? = some (.cells (rcells n w.heap.size (.slice none 0 0) w1.heap.size (w1.heap.size + 1) false (.slice none 0 0)) 57 (0, 0)) := by
    rw [hW]
    have := heap_alloc_new ((w1.alloc (.map #[] 0)).alloc (.map #[] 0)) (.cells (rcells n w.heap.size (.slice none 0 0) w1.heap.size (w1.heap.size + 1) false (.slice none 0 0)) 57)
    rw [s2] at this
    exact this
  have nilv : ∀ (c : Nat) (v : Value), (List.replicate n (Value.slice none 0 0))[c]? = some v → v = .slice none 0 0 := fun c v hv => by
    obtain ⟨hl, e⟩ := List.getElem?_eq_some_iff.1 hv
    rw [List.getElem_replicate] at e
    exact e.symm
  refine ⟨⟨w.heap.size, w1.heap.size, w1.heap.size + 1, ⟨.slice none 0 0, .slice none 0 0, List.replicate n (.slice none 0 0), ?_⟩, fun b hb => hb⟩, bW⟩
  refine ⟨⟨eR, eH, by simp, rw_nil _ _ _ _ _ _, rw_nil _ _ _ _ _ _, ?_, ?_, .inl ⟨by omega, by omega⟩, .inl ⟨by omega, by omega⟩, .inl ⟨by omega, by omega⟩, .inl ⟨by omega, by omega⟩, fun x hx => by simp at hx, Nat.le_refl _, by omega, ⟨_, _, _, _, eM, eT⟩, by omega⟩, ?_, ?_, Tch.refl _ _ _⟩
  · intro c v hv
    rw [nilv c v hv]
    exact rw_nil _ _ _ _ _ _
  · intro c c' v v' k hv hv' _ hk
    rw [nilv c v hv] at hk
    simp [Value.ownBlock] at hk
  · exact (SetIs.made w1 63 vH).congr (by rw [eM]; exact (heap_alloc_new _ _).symm)
  · refine (SetIs.made (w1.alloc (.map #[] 0)) 60 vT).congr ?_ |> fun h => by rw [s1] at h; exact h
    rw [s1, eT]
    have := heap_alloc_new (w1.alloc (.map #[] 0)) (.map #[] 0)
    rw [s1] at this
    exact this.symm

set_option maxRecDepth 100000 in
set_option maxHeartbeats 400000 in
theorem new13 (n : Nat) (hn : n ≤ 65536) (w : World) :
    Calls Try.prog 13 #[.int .i64 n] w fun e w' => ∃ R, e = .returned (.pointer (some ⟨R, 0, none⟩)) ∧ St w' w.heap.size (fun b => w.heap.size ≤ b ∧ b < w'.heap.size) R n [] ∧ Below w.heap.size w w' := by
  have hmm := @run_makeMap Try.prog
  obtain ⟨i0, hi, hz0, hz1, hz2⟩ := info_parts info61
  go_enter Try.func13, Try.ntmps13
  go_wp2_with (first | (at_make; refine wpList_make_full _ rfl _ _ 48 rfl w.heap.size 61 i0 (.slice none 0 0) 1 Try.underlying48 hi hz0 hz1 .i64 .i64 _ _ n rfl rfl rfl rfl (by rw [hz2]; omega) (by unfold maxLen; omega) (Nat.le_refl _) ?_; intro w1 hown1 hgrow1) | fail)
  rw [made_cells] at hown1
  go_ret
  exact ⟨_, rfl, st_new w w1 n hown1 hgrow1 _ rfl⟩

theorem wild_eq (S : List Stp) (c a r : Int) : wildOf (S ++ [(c, a, r)]) = (wildOf S || a == -1 || decide (r < 0)) := by
  rw [wild_snoc]; unfold isWildStep; rw [Bool.or_assoc]
theorem held_eq (S : List Stp) (c : Nat) (a r : Int) : (fun j : Nat => heldOf (S ++ [((c : Int), a, r)]) j) = fun j : Nat => if j = c then heldOf S c ++ [(a, r)] else heldOf S j := by
  funext j
  rw [held_snoc]
  by_cases h : j = c
  · subst h; simp
  · have : ¬ ((c : Int) = (j : Int)) := by omega
    rw [if_neg this, if_neg h]

/-- from the end of 'add' to the state between two calls -/
theorem St.added {w w' : World} {B : Nat} {F : Nat → Prop} {R n Hb mh mt : Nat} {S : List Stp} {c : Nat} {a r : Int} (hB : ∀ b, F b → B ≤ b ∧ b < w.heap.size)
    (h : Ph w B w.heap.size F [] R n Hb mh mt (wildOf (S ++ [((c : Int), a, r)])) (holdersOf (S ++ [((c : Int), a, r)])) (repsOf (S ++ [((c : Int), a, r)])) (fun j => heldOf (S ++ [((c : Int), a, r)]) j) (S.length + 1) (S ++ [((c : Int), a, r)]) (S.length + 1) (targetsOf S ++ [(a, r)]) w') :
    St w' B (fun b => F b ∨ (w.heap.size ≤ b ∧ b < w'.heap.size)) R n (S ++ [((c : Int), a, r)]) ∧ Tch F w.heap.size w w' := by
  obtain ⟨ho, rp, hs, hF⟩ := h
  refine ⟨⟨Hb, mh, mt, ⟨ho, rp, hs, ?_⟩, ?_⟩, hF.tch⟩
  · have hlt : ∀ {b : Nat} {o : Obj}, w'.heap[b]? = some o → G F w.heap.size b → G (fun b => F b ∨ (w.heap.size ≤ b ∧ b < w'.heap.size)) w'.heap.size b := fun hk hg => by
      rcases hg with h1 | h1
      · exact .inl (.inl h1)
      · exact .inl (.inr ⟨h1, lt_of_some hk⟩)
    have rwk : ∀ {e : TypeId} {size m : Nat} {v : Value} {cs : List Value}, Rw w' B w.heap.size F [] e size v m cs → Rw w' B w'.heap.size (fun b => F b ∨ (w.heap.size ≤ b ∧ b < w'.heap.size)) [] e size v m cs := fun h1 =>
      ⟨h1.own, fun k hk => ⟨by
        obtain ⟨cur, hcur⟩ := own_block h1.own hk
        exact hlt hcur (h1.mine k hk).1, by simp⟩⟩
    have hc := hF.core
    obtain ⟨es1, k1, es2, k2, m1, m2⟩ := hc.maps
    have hl : (S ++ [((c : Int), a, r)]).length = S.length + 1 := by simp
    have ht : targetsOf (S ++ [((c : Int), a, r)]) = targetsOf S ++ [(a, r)] := by simp [targetsOf]
    rw [hl, ht]
    exact ⟨⟨hc.hR, hc.hH, hc.len, rwk hc.oo, rwk hc.orp, fun c v hv => rwk (hc.oh c v hv), hc.apart, hlt hc.hR hc.gR, hlt hc.hH hc.gH, hlt m1 hc.gmh, hlt m2 hc.gmt, fun x hx => by simp at hx, Nat.le_refl _, Nat.le_trans hc.bN hc.n0, hc.maps, hc.mne⟩, hF.sh, hF.st, Tch.refl _ _ _⟩
  · intro b hb
    have := hF.core.n0
    have := hF.core.bN
    rcases hb with h1 | h1
    · have := hB b h1
      omega
    · omega
end Go.Proofs.Qxb6608516a.adR
