/- THE TWO MAPS OF THE RULES, as sets. -/
import Derived.Test.Qxb6608516aProg
import Derived.Test.Qxb6608516aAdP
import Derived.WalkKit
import Derived.Maps.OwnSet
import Derived.DeepKeys4
namespace Go.Proofs.Qxb6608516a.adM
open Go.RowKit
open Go.Proofs.Qxb6608516a.Ad
set_option linter.unusedVariables false

theorem laidOut : laidOutB Try.prog = true := by kernel_rfl
theorem row63 : (63 : TypeId) < Try.prog.types.size := of_decide_eq_true (by kernel_rfl)
theorem row60 : (60 : TypeId) < Try.prog.types.size := of_decide_eq_true (by kernel_rfl)
theorem wide63 : (match Try.prog.underlying 63 with | some (.array _ _) | some (.struct _) => true | _ => false) = true := by rw [Try.underlying63]
theorem wide60 : (match Try.prog.underlying 60 with | some (.array _ _) | some (.struct _) => true | _ => false) = true := by rw [Try.underlying60]
theorem law63 : Maps.Keyed Try.prog 63 := Maps.Keyed.of_law (deep_law_laid laidOut (m := 4) (by omega) row63 (by kernel_rfl) wide63)
theorem law60 : Maps.Keyed Try.prog 60 := Maps.Keyed.of_law (deep_law_laid laidOut (m := 4) (by omega) row60 (by kernel_rfl) wide60)
theorem zero64 (w : World) : (zeroValue 64).run Try.prog w = .ok (.agg #[]) w := by kernel_rfl

def vH (s : Stp) : Value := .agg #[.int .i64 s.1, .int .i64 s.2.1, .int .i64 s.2.2]
def vT (t : Int × Int) : Value := .agg #[.int .i64 t.1, .int .i64 t.2]
theorem vH_inj {s t : Stp} (h : vH s = vH t) : s = t := by
  simp [vH] at h
  exact Prod.ext h.1 (Prod.ext h.2.1 h.2.2)
theorem vT_inj {s t : Int × Int} (h : vT s = vT t) : s = t := by
  simp [vT] at h
  exact Prod.ext h.1 h.2

def Ok (x : Int) : Prop := (Lit.int .i64 x).wf = true

theorem cells60 : Try.prog.cellsOf 60 = 2 := by kernel_rfl
theorem cells63 : Try.prog.cellsOf 63 = 3 := by kernel_rfl
theorem cells3 : Try.prog.cellsOf 3 = 1 := by kernel_rfl
theorem kt63 : Try.prog.keyType 63 = true := by kernel_rfl
theorem kt60 : Try.prog.keyType 60 = true := by kernel_rfl
theorem tsz0 : Try.prog.types.size + 1 = (Try.prog.types.size - 2) + 3 := by kernel_rfl
theorem tsz : ∃ q, Try.prog.types.size + 1 = q + 3 := ⟨_, tsz0⟩

theorem lits3 (q : Nat) {x : Int} (h : (Lit.int .i64 x).wf = true) : Try.prog.keyLits (q + 1) 3 [.int .i64 x] = some [.int .i64 x] := by
  simp [Program.keyLits, Try.underlying3, h]
theorem lits60 (q : Nat) {x y : Int} (h1 : (Lit.int .i64 x).wf = true) (h2 : (Lit.int .i64 y).wf = true) : Try.prog.keyLits (q + 2) 60 [.int .i64 x, .int .i64 y] = some [.int .i64 x, .int .i64 y] := by
  unfold Program.keyLits
  simp only [Try.underlying60]
  simp [cells60, cells3, lits3 q h1, lits3 q h2]
theorem lits63 (q : Nat) {x y z : Int} (h1 : (Lit.int .i64 x).wf = true) (h2 : (Lit.int .i64 y).wf = true) (h3 : (Lit.int .i64 z).wf = true) : Try.prog.keyLits (q + 3) 63 [.int .i64 x, .int .i64 y, .int .i64 z] = some [.int .i64 x, .int .i64 y, .int .i64 z] := by
  unfold Program.keyLits
  simp only [Try.underlying63]
  simp [cells63, cells60, cells3, lits3 (q + 1) h1, lits60 q h2 h3]
theorem keyT {t : Int × Int} (h1 : Ok t.1) (h2 : Ok t.2) : ∃ l, keyOf Try.prog 60 (vT t) = some l := by
  unfold Ok at h1 h2
  have hf : (vT t).formed Try.prog 60 = true := by simp [vT, Value.formed, Try.underlying60, cells60]
  simp only [keyOf, Try.underlying60, kt60, hf, Bool.and_self, if_true]
  obtain ⟨q, hq⟩ := tsz
  rw [hq]
  have e := lits60 (q + 1) h1 h2
  simp only [vT, Value.cells]
  rw [e]
  exact ⟨_, rfl⟩
theorem keyH {s : Stp} (h1 : Ok s.1) (h2 : Ok s.2.1) (h3 : Ok s.2.2) : ∃ l, keyOf Try.prog 63 (vH s) = some l := by
  unfold Ok at h1 h2 h3
  have hf : (vH s).formed Try.prog 63 = true := by simp [vH, Value.formed, Try.underlying63, cells63]
  simp only [keyOf, Try.underlying63, kt63, hf, Bool.and_self, if_true]
  obtain ⟨q, hq⟩ := tsz
  rw [hq]
  have e := lits63 q h1 h2 h3
  simp only [vH, Value.cells]
  rw [e]
  exact ⟨_, rfl⟩

/-- block b is a map of at most m entries: the set of the values of L -/
def SetIs {α : Type} [DecidableEq α] (k : TypeId) (val : α → Value) (w : World) (b m : Nat) (L : List α) : Prop :=
  ∃ D : DataW Unit, w.ownsMap Try.prog k (unitElem (H := Unit)) b m D ∧ (∀ s l, keyOf Try.prog k (val s) = some l → Maps.has D l = decide (s ∈ L)) ∧ Maps.size D = (Ad.distinct L).length

section
variable {α : Type} [DecidableEq α] {k : TypeId} {val : α → Value} {w w' : World} {b m : Nat} {L : List α}

theorem SetIs.made (w : World) (k : TypeId) (val : α → Value) : SetIs k val (w.alloc (.map #[] 0)) w.heap.size 0 ([] : List α) :=
  ⟨_, World.ownsMap_made w _ _ _, fun s l _ => by simp [Maps.has], rfl⟩
theorem SetIs.congr (h : SetIs k val w b m L) (hb : w'.heap[b]? = w.heap[b]?) : SetIs k val w' b m L := by
  obtain ⟨D, ⟨es, ck, h1, r⟩, h2, h3⟩ := h
  exact ⟨D, ⟨es, ck, hb.trans h1, r⟩, h2, h3⟩
theorem SetIs.block (h : SetIs k val w b m L) : ∃ es ck, w.heap[b]? = some (.map es ck) := by
  obtain ⟨D, ⟨es, ck, h1, r⟩, h2, h3⟩ := h
  exact ⟨es, ck, h1⟩
theorem SetIs.mono (h : SetIs k val w b m L) {m' : Nat} (hm : m ≤ m') : SetIs k val w b m' L := by
  obtain ⟨D, h1, h2, h3⟩ := h
  exact ⟨D, h1.mono hm, h2, h3⟩

/-- 'm[x] = struct{}{}' -/
theorem SetIs.store (h : SetIs k val w b m L) (K : Maps.Keyed Try.prog k) (hinj : ∀ {s t : α}, val s = val t → s = t) {t : TypeId} (ht : Try.prog.underlying t = some (.map k 64)) (hm : m < maxLen) (x : α) (hx : ∃ l, keyOf Try.prog k (val x) = some l) :
    ∃ w', (Instr.mapUpdate t (.map (some b)) (val x) (.agg #[])).run Try.prog w = .ok () w' ∧ SetIs k val w' b (m + 1) (L ++ [x]) ∧ w.mapTurned w' b := by
  obtain ⟨l, hl⟩ := hx
  obtain ⟨D, h1, h2, h3⟩ := h
  obtain ⟨w', hrun, hown, hturn⟩ := h1.store K ht hm hl unitElem_mk
  refine ⟨w', hrun, ⟨_, hown, ?_, ?_⟩, hturn⟩
  · intro s l' hl'
    by_cases e : s = x
    · subst e
      rw [hl] at hl'
      cases hl'
      rw [Maps.has_put_same h1.isMap (K.key hl)]
      simp
    · have hne : l' ≠ l := fun q => e (hinj (by subst q; exact K.inj hl' hl))
      rw [Maps.has_put_other hne, h2 s l' hl']
      simp [e]
  · rw [Maps.size_put (h1.tidy K), h2 x l hl, h3, Ad.distinct_snoc, Ad.length_addNew]
    by_cases e : x ∈ L
    · rw [if_pos (by simpa using e), if_pos ((Ad.mem_distinct _ _).2 e)]
    · rw [if_neg (by simpa using e), if_neg (mt (Ad.mem_distinct _ _).1 e)]
/-- 'len(m)' -/
theorem SetIs.len (h : SetIs k val w b m L) {t : TypeId} (ht : Try.prog.underlying t = some (.map k 64)) (ty : TypeId) : (Builtin.len_ #[t] ty #[.map (some b)]).run Try.prog w = .ok (.int .i64 ((Ad.distinct L).length : Nat)) w := by
  obtain ⟨D, h1, h2, h3⟩ := h
  rw [← h3]
  exact h1.len ht ty
/-- '_, ok := m[x]' -/
theorem SetIs.look (h : SetIs k val w b m L) (K : Maps.Keyed Try.prog k) {t : TypeId} (ht : Try.prog.underlying t = some (.map k 64)) (x : α) (hx : ∃ l, keyOf Try.prog k (val x) = some l) :
    (Instr.lookup t (.map (some b)) (val x) true).run Try.prog w = .ok (.tuple #[.agg #[], .bool (decide (x ∈ L))]) w := by
  obtain ⟨l, hl⟩ := hx
  obtain ⟨D, h1, h2, h3⟩ := h
  obtain ⟨v, ps, hrun, hv⟩ := h1.look_ok K ht (zero64 w) (unitElem_mk) hl
  obtain ⟨rfl, _⟩ := unitElem_inv hv
  rw [hrun, h2 x l hl]
end
end Go.Proofs.Qxb6608516a.adM
