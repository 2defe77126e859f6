/- ZZadd by its contract; two rules side by side. -/
import Derived.Test.Qxb6608516aAdW
import Derived.Test.Qxb6608516aAdS
namespace Go.Proofs.Qxb6608516a.adZ
open Go.RowKit
open Go.Proofs.Qxb6608516a.Ad
open Go.Proofs.Qxb6608516a.adC
open Go.Proofs.Qxb6608516a.adH
open Go.Proofs.Qxb6608516a.adR
open Go.Proofs.Qxb6608516a.adW (add28)
open Go.Proofs.Qxb6608516a.adM (Ok)
set_option linter.unusedVariables false

theorem add14n {w : World} {B : Nat} {F : Nat → Prop} {R n : Nat} {S : List Stp} (h : St w B F R n S) (c : Nat) (a r : Int) (hc1 : c < n) (hn : n ≤ 65536) (hl : S.length ≤ 8192) (ha : Ok a) (hr : Ok r) :
    Calls Try.prog 14 #[.pointer (some ⟨R, 0, none⟩), .int .i64 c, .int .i64 a, .int .i64 r] w fun e w' =>
      e = .returned (.tuple #[]) ∧ St w' B (fun b => F b ∨ (w.heap.size ≤ b ∧ b < w'.heap.size)) R n (S ++ [((c : Int), a, r)]) ∧ Tch F w.heap.size w w' := by
  obtain ⟨Hb, mh, mt, hP, hB⟩ := h
  have k1 := holders_le S
  have k2 := reps_le S
  have k3 := held_le S c
  go_enter Try.func14, Try.ntmps14
  go_wp2_with fail
  refine (add28 w B F R n Hb mh mt (wildOf S) (holdersOf S) (repsOf S) (fun c => heldOf S c) S.length S S.length (targetsOf S) c a r hc1 hn (by omega) (by omega) (by exact Nat.le_trans k3 hl) (by omega) (by omega) ha hr
    (holdersOf (S ++ [((c : Int), a, r)])) (holders_snoc S _) (fun j => heldOf (S ++ [((c : Int), a, r)]) j) (held_eq S c a r) (repsOf (S ++ [((c : Int), a, r)])) (reps_snoc S _) (wildOf (S ++ [((c : Int), a, r)])) (wild_eq S c a r) hP).mono ?_
  rintro e w' ⟨rfl, hP'⟩
  have hS := St.added hB hP'
  clear hP hP'
  go_wp2
  go_end0
  exact ⟨rfl, hS⟩
theorem add14 {w : World} {B : Nat} {F : Nat → Prop} {R n : Nat} {S : List Stp} (h : St w B F R n S) (c a r : Int) (hc0 : 0 ≤ c) (hc1 : c < n) (hn : n ≤ 65536) (hl : S.length ≤ 8192) (ha : Ok a) (hr : Ok r) :
    Calls Try.prog 14 #[.pointer (some ⟨R, 0, none⟩), .int .i64 c, .int .i64 a, .int .i64 r] w fun e w' =>
      e = .returned (.tuple #[]) ∧ St w' B (fun b => F b ∨ (w.heap.size ≤ b ∧ b < w'.heap.size)) R n (S ++ [(c, a, r)]) ∧ Tch F w.heap.size w w' := by
  obtain ⟨c, rfl⟩ := Int.eq_ofNat_of_zero_le hc0
  exact add14n h c a r (by omega) hn hl ha hr

theorem own_lower {w : World} {B B' : Nat} {e : TypeId} {size m : Nat} {v : Value} {cs : List Value} (h : w.ownsRow B e size v m cs) (hb : B' ≤ B) : w.ownsRow B' e size v m cs := by
  refine ⟨h.1, ?_⟩
  rcases h.2 with hn | ⟨g, cap, cur, rfl, hB, r⟩
  · exact .inl hn
  · exact .inr ⟨g, cap, cur, rfl, Nat.le_trans hb hB, r⟩
theorem St.lower {w : World} {B B' : Nat} {F : Nat → Prop} {R n : Nat} {S : List Stp} (h : St w B F R n S) (hb : B' ≤ B) : St w B' F R n S := by
  obtain ⟨Hb, mh, mt, ⟨ho, rp, hs, hF⟩, hB⟩ := h
  have hc := hF.core
  exact ⟨Hb, mh, mt, ⟨ho, rp, hs, ⟨hc.hR, hc.hH, hc.len, ⟨own_lower hc.oo.own hb, hc.oo.mine⟩, ⟨own_lower hc.orp.own hb, hc.orp.mine⟩, fun c v hv => ⟨own_lower (hc.oh c v hv).own hb, (hc.oh c v hv).mine⟩, hc.apart, hc.gR, hc.gH, hc.gmh, hc.gmt, hc.xs, hc.n0, Nat.le_trans hb hc.bN, hc.maps, hc.mne⟩, hF.sh, hF.st, hF.tch⟩, fun b hf => ⟨Nat.le_trans hb (hB b hf).1, (hB b hf).2⟩⟩
theorem St.fB {w : World} {B : Nat} {F : Nat → Prop} {R n : Nat} {S : List Stp} (h : St w B F R n S) : ∀ b, F b → B ≤ b ∧ b < w.heap.size := by
  obtain ⟨_, _, _, _, hB⟩ := h
  exact hB
/-- what lies below B, is as it was -/
theorem tch_below {w w' : World} {B : Nat} {F : Nat → Prop} {N0 : Nat} (h : Tch F N0 w w') (hN : B ≤ N0) (hF : ∀ b, F b → B ≤ b) : Below B w w' :=
  ⟨h.os, h.tape, h.output, h.size, fun b hb => h.block b (by omega) (fun hf => by have := hF b hf; omega)⟩

/-- two rules, apart -/
def Two (w : World) (B n R1 R2 : Nat) (S1 S2 : List Stp) : Prop := ∃ F1 F2, St w B F1 R1 n S1 ∧ St w B F2 R2 n S2 ∧ ∀ b, F1 b → ¬ F2 b
theorem Two.below {w w' : World} {B n R1 R2 : Nat} {S1 S2 : List Stp} (h : Two w B n R1 R2 S1 S2) (hb : Below w.heap.size w w') : Two w' B n R1 R2 S1 S2 := by
  obtain ⟨F1, F2, h1, h2, hd⟩ := h
  exact ⟨F1, F2, h1.below hb, h2.below hb, hd⟩
theorem Two.first {w w' : World} {B n R1 R2 : Nat} {S1 S1' S2 : List Stp} {F1 F2 : Nat → Prop} (h1 : St w B F1 R1 n S1) (h2 : St w B F2 R2 n S2) (hd : ∀ b, F1 b → ¬ F2 b)
    (h1' : St w' B (fun b => F1 b ∨ (w.heap.size ≤ b ∧ b < w'.heap.size)) R1 n S1') (ht : Tch F1 w.heap.size w w') : Two w' B n R1 R2 S1' S2 :=
  ⟨_, F2, h1', h2.frame ht.size (fun b hb => ht.block b (St.fB h2 b hb).2 (fun hf => hd b hf hb)), fun b hb hb2 => by
    rcases hb with q | q
    · exact hd b q hb2
    · have := (St.fB h2 b hb2).2; omega⟩
theorem Two.second {w w' : World} {B n R1 R2 : Nat} {S1 S2 S2' : List Stp} {F1 F2 : Nat → Prop} (h1 : St w B F1 R1 n S1) (h2 : St w B F2 R2 n S2) (hd : ∀ b, F1 b → ¬ F2 b)
    (h2' : St w' B (fun b => F2 b ∨ (w.heap.size ≤ b ∧ b < w'.heap.size)) R2 n S2') (ht : Tch F2 w.heap.size w w') : Two w' B n R1 R2 S1 S2' :=
  ⟨F1, _, h1.frame ht.size (fun b hb => ht.block b (St.fB h1 b hb).2 (fun hf => hd b hb hf)), h2', fun b hb hb2 => by
    rcases hb2 with q | q
    · exact hd b hb q
    · have := (St.fB h1 b hb).2; omega⟩
end Go.Proofs.Qxb6608516a.adZ
