/- THE RULES AS THEY LIE IN MEMORY: what each step of 'add' does to them. No walk here. -/
import Derived.Test.Qxb6608516aProg
import Derived.Test.Qxb6608516aAdP
import Derived.WalkKit
import Derived.Deep.AppendLies
import Derived.Maps.OwnSet
namespace Go.Proofs.Qxb6608516a.adC
open Go.RowKit
open Go.Proofs.Qxb6608516a.Ad
set_option linter.unusedVariables false

/-- the cells of the struct 'rules' -/
def rcells (n Hb : Nat) (ho : Value) (mh mt : Nat) (wd : Bool) (rp : Value) : Array Value :=
  #[.int .u8 0, .string ⟨#[]⟩, .slice none 0 0, .slice none 0 0, .nilFunc, .slice (some ⟨Hb, 0, none⟩) n n, ho, .map (some mh), .map (some mt), .bool wd, .pointer none, rp]

def cells1 (l : List Int) : List Value := l.map (Value.int .i64)
def cells2 : List (Int × Int) → List Value
  | [] => []
  | p :: l => .int .i64 p.1 :: .int .i64 p.2 :: cells2 l
def cells3 : List Stp → List Value
  | [] => []
  | p :: l => .int .i64 p.1 :: .int .i64 p.2.1 :: .int .i64 p.2.2 :: cells3 l
theorem cells2_append : ∀ a b : List (Int × Int), cells2 (a ++ b) = cells2 a ++ cells2 b
  | [], b => rfl
  | p :: a, b => by simp [cells2, cells2_append a b]
theorem cells3_append : ∀ a b : List Stp, cells3 (a ++ b) = cells3 a ++ cells3 b
  | [], b => rfl
  | p :: a, b => by simp [cells3, cells3_append a b]

/-- the blocks that may have turned: F's, and those laid since the heap had N0 blocks -/
def G (F : Nat → Prop) (N0 : Nat) (b : Nat) : Prop := F b ∨ N0 ≤ b

/-- only F's blocks, and those from N0 on, have turned -/
structure Tch (F : Nat → Prop) (N0 : Nat) (w w' : World) : Prop where
  os : w'.os = w.os
  tape : w'.tape = w.tape
  output : w'.output = w.output
  size : w.heap.size ≤ w'.heap.size
  block : ∀ b, b < N0 → ¬ F b → w'.heap[b]? = w.heap[b]?
theorem Tch.refl (F : Nat → Prop) (N0 : Nat) (w : World) : Tch F N0 w w := ⟨rfl, rfl, rfl, Nat.le_refl _, fun _ _ _ => rfl⟩
theorem Tch.trans {F : Nat → Prop} {N0 : Nat} {a b c : World} (h : Tch F N0 a b) (k : Tch F N0 b c) : Tch F N0 a c :=
  ⟨k.os.trans h.os, k.tape.trans h.tape, k.output.trans h.output, Nat.le_trans h.size k.size, fun i hi hf => (k.block i hi hf).trans (h.block i hi hf)⟩
theorem Tch.alloc {F : Nat → Prop} {N0 : Nat} {a w : World} (h : Tch F N0 a w) (hN : N0 ≤ w.heap.size) (o : Obj) : Tch F N0 a (w.alloc o) :=
  h.trans ⟨rfl, rfl, rfl, by simp, fun k hk _ => Below.heap_alloc _ _ _ (by omega)⟩
theorem Tch.drew {F : Nat → Prop} {N0 : Nat} {a w : World} (h : Tch F N0 a w) : Tch F N0 a w.drew := ⟨h.os, h.tape, h.output, h.size, h.block⟩
theorem Tch.setCell {F : Nat → Prop} {N0 : Nat} {a w : World} (h : Tch F N0 a w) {p : Addr} (hp : G F N0 p.block) (u : Value) : Tch F N0 a (w.setCell p u) :=
  h.trans ⟨rfl, rfl, rfl, by simp [World.setCell], fun k hk hf => Below.heap_setCell _ _ _ _ (fun e => by
    subst e
    rcases hp with h1 | h1
    · exact hf h1
    · omega)⟩
theorem Tch.grown {F : Nat → Prop} {N0 : Nat} {a w w' : World} {row : Option Nat} (h : Tch F N0 a w) (hg : w.grownBy w' row) (hN : N0 ≤ w.heap.size) (hr : ∀ k, row = some k → G F N0 k) : Tch F N0 a w' :=
  h.trans ⟨hg.os, hg.tape, hg.output, hg.size, fun k hk hf => hg.block k (by omega) (fun e => by
    rcases hr k e.symm with h1 | h1
    · exact hf h1
    · omega)⟩

theorem own_block {w : World} {B : Nat} {e : TypeId} {size n : Nat} {v : Value} {xs : List Value} (h : w.ownsRow B e size v n xs) {k : Nat} (hk : v.ownBlock = some k) : ∃ cur, w.heap[k]? = some (.cells cur e (0, 0)) := by
  rcases h.2 with ⟨rfl, _⟩ | ⟨g, cap, cur, rfl, hb, hg, _⟩
  · simp [Value.ownBlock] at hk
  · simp [Value.ownBlock] at hk
    subst hk
    exact ⟨cur, hg⟩
theorem own_form {w : World} {B : Nat} {e : TypeId} {size n : Nat} {v : Value} {xs : List Value} (h : w.ownsRow B e size v n xs) : ∃ ao cap, v = .slice ao n cap := by
  rcases h.2 with ⟨rfl, rfl⟩ | ⟨g, cap, cur, rfl, _⟩
  · exact ⟨_, _, rfl⟩
  · exact ⟨_, _, rfl⟩
theorem own_congr {w w' : World} {B : Nat} {e : TypeId} {size n : Nat} {v : Value} {xs : List Value} (h : w.ownsRow B e size v n xs) (hb : ∀ k, v.ownBlock = some k → w'.heap[k]? = w.heap[k]?) : w'.ownsRow B e size v n xs := by
  refine ⟨h.1, ?_⟩
  rcases h.2 with hn | ⟨g, cap, cur, rfl, hB, hg, r⟩
  · exact .inl hn
  · exact .inr ⟨g, cap, cur, rfl, hB, by rw [hb g rfl]; exact hg, r⟩

/-- a row of the rules': owned, in a block of theirs, none of the blocks X -/
structure Rw (w : World) (B N0 : Nat) (F : Nat → Prop) (X : List Nat) (e : TypeId) (size : Nat) (v : Value) (n : Nat) (xs : List Value) : Prop where
  own : w.ownsRow B e size v n xs
  mine : ∀ k, v.ownBlock = some k → G F N0 k ∧ k ∉ X
theorem Rw.congr {w w' : World} {B N0 : Nat} {F : Nat → Prop} {X : List Nat} {e : TypeId} {size n : Nat} {v : Value} {xs : List Value} (h : Rw w B N0 F X e size v n xs) (hb : ∀ k, v.ownBlock = some k → w'.heap[k]? = w.heap[k]?) : Rw w' B N0 F X e size v n xs :=
  ⟨own_congr h.own hb, h.mine⟩

/-- THE RULES IN MEMORY: R the struct, Hb the row of held lists, ho the holders, rp the repeated, hs the held lists; what each holds. -/
structure Core (w : World) (B N0 : Nat) (F : Nat → Prop) (X : List Nat) (R n Hb mh mt : Nat) (ho rp : Value) (hs : List Value) (wd : Bool) (Lo : List Int) (Lr : List Stp) (Lh : Nat → List (Int × Int)) : Prop where
  hR : w.heap[R]? = some (.cells (rcells n Hb ho mh mt wd rp) 57 (0, 0))
  hH : w.heap[Hb]? = some (.cells hs.toArray 61 (0, 0))
  len : hs.length = n
  oo : Rw w B N0 F X 3 1 ho Lo.length (cells1 Lo)
  orp : Rw w B N0 F X 63 3 rp Lr.length (cells3 Lr)
  oh : ∀ c v, hs[c]? = some v → Rw w B N0 F X 60 2 v (Lh c).length (cells2 (Lh c))
  apart : ∀ (c c' : Nat) (v v' : Value) (k : Nat), hs[c]? = some v → hs[c']? = some v' → c ≠ c' → v.ownBlock = some k → v'.ownBlock ≠ some k
  gR : G F N0 R
  gH : G F N0 Hb
  gmh : G F N0 mh
  gmt : G F N0 mt
  xs : ∀ x ∈ X, x < w.heap.size
  n0 : N0 ≤ w.heap.size
  bN : B ≤ N0
  maps : ∃ es1 k1 es2 k2, w.heap[mh]? = some (.map es1 k1) ∧ w.heap[mt]? = some (.map es2 k2)
  mne : mh ≠ mt

section
variable {w w' : World} {B N0 : Nat} {F : Nat → Prop} {X : List Nat} {R n Hb mh mt : Nat} {ho rp : Value} {hs : List Value} {wd : Bool} {Lo : List Int} {Lr : List Stp} {Lh : Nat → List (Int × Int)}

theorem lt_of_some {w : World} {b : Nat} {o : Obj} (h : w.heap[b]? = some o) : b < w.heap.size := (Array.getElem?_eq_some_iff.1 h).1

/-- the blocks that the rules live in are as they were: so are the rules -/
theorem Core.congr (h : Core w B N0 F X R n Hb mh mt ho rp hs wd Lo Lr Lh) (hsz : w.heap.size ≤ w'.heap.size)
    (hR : w'.heap[R]? = w.heap[R]?) (hH : w'.heap[Hb]? = w.heap[Hb]?) (h1 : w'.heap[mh]? = w.heap[mh]?) (h2 : w'.heap[mt]? = w.heap[mt]?)
    (hr : ∀ k cur e, w.heap[k]? = some (.cells cur e (0, 0)) → G F N0 k → k ∉ X → w'.heap[k]? = w.heap[k]?) :
    Core w' B N0 F X R n Hb mh mt ho rp hs wd Lo Lr Lh := by
  have key : ∀ {e : TypeId} {size m : Nat} {v : Value} {cs : List Value}, Rw w B N0 F X e size v m cs → Rw w' B N0 F X e size v m cs := fun hrw =>
    hrw.congr (fun k hk => by
      obtain ⟨cur, hc⟩ := own_block hrw.own hk
      exact hr k cur _ hc (hrw.mine k hk).1 (hrw.mine k hk).2)
  obtain ⟨es1, k1, es2, k2, m1, m2⟩ := h.maps
  exact ⟨hR.trans h.hR, hH.trans h.hH, h.len, key h.oo, key h.orp, fun c v hv => key (h.oh c v hv), h.apart, h.gR, h.gH, h.gmh, h.gmt,
    fun x hx => Nat.lt_of_lt_of_le (h.xs x hx) hsz, Nat.le_trans h.n0 hsz, h.bN, ⟨es1, k1, es2, k2, h1.trans m1, h2.trans m2⟩, h.mne⟩

theorem Core.below (h : Core w B N0 F X R n Hb mh mt ho rp hs wd Lo Lr Lh) (hb : Below w.heap.size w w') : Core w' B N0 F X R n Hb mh mt ho rp hs wd Lo Lr Lh := by
  obtain ⟨es1, k1, es2, k2, m1, m2⟩ := h.maps
  exact h.congr hb.size (hb.block _ (lt_of_some h.hR)) (hb.block _ (lt_of_some h.hH)) (hb.block _ (lt_of_some m1)) (hb.block _ (lt_of_some m2)) (fun k cur e hk _ _ => hb.block k (lt_of_some hk))

theorem Core.alloc (h : Core w B N0 F X R n Hb mh mt ho rp hs wd Lo Lr Lh) (o : Obj) : Core (w.alloc o) B N0 F X R n Hb mh mt ho rp hs wd Lo Lr Lh :=
  h.below ((Below.refl _ _).alloc (Nat.le_refl _) o)
theorem Core.drew (h : Core w B N0 F X R n Hb mh mt ho rp hs wd Lo Lr Lh) : Core w.drew B N0 F X R n Hb mh mt ho rp hs wd Lo Lr Lh :=
  h.below (Below.refl _ _).drew

/-- a new block that no row lies in -/
theorem Core.allocX (h : Core w B N0 F X R n Hb mh mt ho rp hs wd Lo Lr Lh) (o : Obj) : Core (w.alloc o) B N0 F (w.heap.size :: X) R n Hb mh mt ho rp hs wd Lo Lr Lh := by
  have h' := h.alloc o
  have key : ∀ {e : TypeId} {size m : Nat} {v : Value} {cs : List Value}, Rw w B N0 F X e size v m cs → Rw (w.alloc o) B N0 F X e size v m cs → Rw (w.alloc o) B N0 F (w.heap.size :: X) e size v m cs := fun h1 h2 =>
    ⟨h2.own, fun k hk => ⟨(h2.mine k hk).1, fun hx => by
      obtain ⟨cur, hc⟩ := own_block h1.own hk
      have := lt_of_some hc
      rcases List.mem_cons.1 hx with e | e
      · omega
      · exact (h2.mine k hk).2 e⟩⟩
  exact ⟨h'.hR, h'.hH, h'.len, key h.oo h'.oo, key h.orp h'.orp, fun c v hv => key (h.oh c v hv) (h'.oh c v hv), h'.apart, h'.gR, h'.gH, h'.gmh, h'.gmt,
    fun x hx => by
      rcases List.mem_cons.1 hx with e | e
      · subst e; simp
      · exact h'.xs x e, h'.n0, h'.bN, h'.maps, h'.mne⟩

theorem ne_type {e e' : TypeId} {size m : Nat} {v : Value} {cs : List Value} {b : Nat} {cur : Array Value} {fr : Nat × Nat} (h : w.ownsRow B e size v m cs) (hb : w.heap[b]? = some (.cells cur e' fr)) (he : e' ≠ e) : some b ≠ v.ownBlock := by
  intro hk
  obtain ⟨cur', hc⟩ := own_block h hk.symm
  rw [hb] at hc
  simp only [Option.some.injEq, Obj.cells.injEq] at hc
  exact he hc.2.1
theorem ne_map {e : TypeId} {size m : Nat} {v : Value} {cs : List Value} {b : Nat} {es : Array MapEntry} {ck : Nat} (h : w.ownsRow B e size v m cs) (hb : w.heap[b]? = some (.map es ck)) : some b ≠ v.ownBlock := by
  intro hk
  obtain ⟨cur', hc⟩ := own_block h hk.symm
  rw [hb] at hc
  cases hc
theorem own_ne {e e' : TypeId} {size m size' m' : Nat} {v v' : Value} {cs cs' : List Value} (h : w.ownsRow B e size v m cs) (h' : w.ownsRow B e' size' v' m' cs') (he : e' ≠ e) : v'.ownBlock = none ∨ v'.ownBlock ≠ v.ownBlock := by
  cases hv : v'.ownBlock with
  | none => exact .inl rfl
  | some k =>
    obtain ⟨cur, hc⟩ := own_block h' hv
    exact .inr (ne_type h hc he)
theorem heap_set_same {a : Addr} {cur : Array Value} {t : TypeId} {v : Value} (hs : a.spot = none) (h : w.heap[a.block]? = some (.cells cur t (0, 0))) : (w.setCell a v).heap[a.block]? = some (.cells (cur.setIfInBounds a.off v) t (0, 0)) := by
  obtain ⟨b, o, sp⟩ := a
  simp only at hs h ⊢
  subst hs
  rw [setCell_eq_setRow w b o cur t (0, 0) v h]
  exact setRow_heap w b cur _ t (0, 0) h

/-- the new row of an append, as a row of the rules' -/
theorem rw_new {e : TypeId} {size m m' : Nat} {v : Value} {cs cs' : List Value} {g cap : Nat} (h : Rw w B N0 F X e size v m cs) (hN : N0 ≤ w.heap.size) (hX : ∀ x ∈ X, x < w.heap.size)
    (hat : v.ownBlock = some g ∨ g = w.heap.size) (hown : w'.ownsRow B e size (.slice (some ⟨g, 0, none⟩) m' cap) m' cs') : Rw w' B N0 F X e size (.slice (some ⟨g, 0, none⟩) m' cap) m' cs' := by
  refine ⟨hown, fun k hk => ?_⟩
  obtain rfl : g = k := by simpa [Value.ownBlock] using hk
  rcases hat with h1 | h1
  · exact h.mine g h1
  · exact ⟨.inr (by omega), fun hx => by have := hX g hx; omega⟩

/-- 'r.holders = append(r.holders, c)' -/
theorem Core.appendHolders (h : Core w B N0 F X R n Hb mh mt ho rp hs wd Lo Lr Lh) {w2 : World} {g cap : Nat} {c : Int}
    (hown : w2.ownsRow B 3 1 (.slice (some ⟨g, 0, none⟩) (Lo.length + 1) cap) (Lo.length + 1) (cells1 Lo ++ [.int .i64 c])) (hgrow : w.grownBy w2 ho.ownBlock) (hat : ho.ownBlock = some g ∨ g = w.heap.size) :
    Core (w2.setCell ⟨R, 6, none⟩ (.slice (some ⟨g, 0, none⟩) (Lo.length + 1) cap)) B N0 F X R n Hb mh mt (.slice (some ⟨g, 0, none⟩) (Lo.length + 1) cap) rp hs wd (Lo ++ [c]) Lr Lh := by
  obtain ⟨es1, k1, es2, k2, m1, m2⟩ := h.maps
  have kR : w2.heap[R]? = w.heap[R]? := hgrow.block R (lt_of_some h.hR) (ne_type h.oo.own h.hR (by decide))
  have kH : w2.heap[Hb]? = w.heap[Hb]? := hgrow.block Hb (lt_of_some h.hH) (ne_type h.oo.own h.hH (by decide))
  have k1' : w2.heap[mh]? = w.heap[mh]? := hgrow.block mh (lt_of_some m1) (ne_map h.oo.own m1)
  have k2' : w2.heap[mt]? = w.heap[mt]? := hgrow.block mt (lt_of_some m2) (ne_map h.oo.own m2)
  have oth : ∀ b, b ≠ R → (w2.setCell ⟨R, 6, none⟩ (.slice (some ⟨g, 0, none⟩) (Lo.length + 1) cap)).heap[b]? = w2.heap[b]? := fun b hb => Below.heap_setCell _ _ _ _ hb
  have neR : ∀ {b : Nat} {cur : Array Value} {e : TypeId} {fr : Nat × Nat}, w2.heap[b]? = some (.cells cur e fr) → e ≠ 57 → b ≠ R := fun hb he e => by
    subst e; rw [kR, h.hR] at hb; simp only [Option.some.injEq, Obj.cells.injEq] at hb; exact he hb.2.1.symm
  have neRm : ∀ {b : Nat} {es : Array MapEntry} {ck : Nat}, w2.heap[b]? = some (.map es ck) → b ≠ R := fun hb e => by
    subst e; rw [kR, h.hR] at hb; cases hb
  have row : ∀ {e : TypeId} {size m : Nat} {v : Value} {cs : List Value}, Rw w2 B N0 F X e size v m cs → e ≠ 57 → Rw (w2.setCell ⟨R, 6, none⟩ (.slice (some ⟨g, 0, none⟩) (Lo.length + 1) cap)) B N0 F X e size v m cs := fun hr he =>
    hr.congr (fun k hk => by
      obtain ⟨cur, hc⟩ := own_block hr.own hk
      exact oth k (neR hc he))
  have rowk : ∀ {e : TypeId} {size m : Nat} {v : Value} {cs : List Value}, Rw w B N0 F X e size v m cs → e ≠ 3 → Rw w2 B N0 F X e size v m cs := fun hr he =>
    ⟨hr.own.kept hgrow (own_ne h.oo.own hr.own he), hr.mine⟩
  have hsz : w.heap.size ≤ (w2.setCell ⟨R, 6, none⟩ (.slice (some ⟨g, 0, none⟩) (Lo.length + 1) cap)).heap.size := by
    have : w2.heap.size = (w2.setCell ⟨R, 6, none⟩ (.slice (some ⟨g, 0, none⟩) (Lo.length + 1) cap)).heap.size := by simp [World.setCell]
    rw [← this]; exact hgrow.size
  refine ⟨?_, ?_, h.len, ?_, row (rowk h.orp (by decide)) (by decide), fun c v hv => row (rowk (h.oh c v hv) (by decide)) (by decide), h.apart, h.gR, h.gH, h.gmh, h.gmt,
    fun x hx => Nat.lt_of_lt_of_le (h.xs x hx) hsz, Nat.le_trans h.n0 hsz, h.bN, ⟨es1, k1, es2, k2, ?_, ?_⟩, h.mne⟩
  · exact heap_set_same (a := ⟨R, 6, none⟩) rfl (kR.trans h.hR)
  · rw [oth Hb (neR (kH.trans h.hH) (by decide)), kH]; exact h.hH
  · have e1 : (Lo ++ [c]).length = Lo.length + 1 := by simp
    have e2 : cells1 (Lo ++ [c]) = cells1 Lo ++ [.int .i64 c] := by simp [cells1]
    rw [e1, e2]
    exact row (rw_new h.oo h.n0 h.xs hat hown) (by decide)
  · rw [oth mh (neRm (k1'.trans m1)), k1']; exact m1
  · rw [oth mt (neRm (k2'.trans m2)), k2']; exact m2
/-- 'r.repeated = append(r.repeated, h)' -/
theorem Core.appendRep (h : Core w B N0 F X R n Hb mh mt ho rp hs wd Lo Lr Lh) {w2 : World} {g cap : Nat} {st : Stp}
    (hown : w2.ownsRow B 63 3 (.slice (some ⟨g, 0, none⟩) (Lr.length + 1) cap) (Lr.length + 1) (cells3 Lr ++ [.int .i64 st.1, .int .i64 st.2.1, .int .i64 st.2.2])) (hgrow : w.grownBy w2 rp.ownBlock) (hat : rp.ownBlock = some g ∨ g = w.heap.size) :
    Core (w2.setCell ⟨R, 11, none⟩ (.slice (some ⟨g, 0, none⟩) (Lr.length + 1) cap)) B N0 F X R n Hb mh mt ho (.slice (some ⟨g, 0, none⟩) (Lr.length + 1) cap) hs wd Lo (Lr ++ [st]) Lh := by
  obtain ⟨es1, k1, es2, k2, m1, m2⟩ := h.maps
  have kR : w2.heap[R]? = w.heap[R]? := hgrow.block R (lt_of_some h.hR) (ne_type h.orp.own h.hR (by decide))
  have kH : w2.heap[Hb]? = w.heap[Hb]? := hgrow.block Hb (lt_of_some h.hH) (ne_type h.orp.own h.hH (by decide))
  have k1' : w2.heap[mh]? = w.heap[mh]? := hgrow.block mh (lt_of_some m1) (ne_map h.orp.own m1)
  have k2' : w2.heap[mt]? = w.heap[mt]? := hgrow.block mt (lt_of_some m2) (ne_map h.orp.own m2)
  have oth : ∀ b, b ≠ R → (w2.setCell ⟨R, 11, none⟩ (.slice (some ⟨g, 0, none⟩) (Lr.length + 1) cap)).heap[b]? = w2.heap[b]? := fun b hb => Below.heap_setCell _ _ _ _ hb
  have neR : ∀ {b : Nat} {cur : Array Value} {e : TypeId} {fr : Nat × Nat}, w2.heap[b]? = some (.cells cur e fr) → e ≠ 57 → b ≠ R := fun hb he e => by
    subst e; rw [kR, h.hR] at hb; simp only [Option.some.injEq, Obj.cells.injEq] at hb; exact he hb.2.1.symm
  have neRm : ∀ {b : Nat} {es : Array MapEntry} {ck : Nat}, w2.heap[b]? = some (.map es ck) → b ≠ R := fun hb e => by
    subst e; rw [kR, h.hR] at hb; cases hb
  have row : ∀ {e : TypeId} {size m : Nat} {v : Value} {cs : List Value}, Rw w2 B N0 F X e size v m cs → e ≠ 57 → Rw (w2.setCell ⟨R, 11, none⟩ (.slice (some ⟨g, 0, none⟩) (Lr.length + 1) cap)) B N0 F X e size v m cs := fun hr he =>
    hr.congr (fun k hk => by
      obtain ⟨cur, hc⟩ := own_block hr.own hk
      exact oth k (neR hc he))
  have rowk : ∀ {e : TypeId} {size m : Nat} {v : Value} {cs : List Value}, Rw w B N0 F X e size v m cs → e ≠ 63 → Rw w2 B N0 F X e size v m cs := fun hr he =>
    ⟨hr.own.kept hgrow (own_ne h.orp.own hr.own he), hr.mine⟩
  have hsz : w.heap.size ≤ (w2.setCell ⟨R, 11, none⟩ (.slice (some ⟨g, 0, none⟩) (Lr.length + 1) cap)).heap.size := by
    have : w2.heap.size = (w2.setCell ⟨R, 11, none⟩ (.slice (some ⟨g, 0, none⟩) (Lr.length + 1) cap)).heap.size := by simp [World.setCell]
    rw [← this]; exact hgrow.size
  refine ⟨?_, ?_, h.len, row (rowk h.oo (by decide)) (by decide), ?_, fun c v hv => row (rowk (h.oh c v hv) (by decide)) (by decide), h.apart, h.gR, h.gH, h.gmh, h.gmt,
    fun x hx => Nat.lt_of_lt_of_le (h.xs x hx) hsz, Nat.le_trans h.n0 hsz, h.bN, ⟨es1, k1, es2, k2, ?_, ?_⟩, h.mne⟩
  · exact heap_set_same (a := ⟨R, 11, none⟩) rfl (kR.trans h.hR)
  · rw [oth Hb (neR (kH.trans h.hH) (by decide)), kH]; exact h.hH
  · have e1 : (Lr ++ [st]).length = Lr.length + 1 := by simp
    have e2 : cells3 (Lr ++ [st]) = cells3 Lr ++ [.int .i64 st.1, .int .i64 st.2.1, .int .i64 st.2.2] := by rw [cells3_append]; rfl
    rw [e1, e2]
    exact row (rw_new h.orp h.n0 h.xs hat hown) (by decide)
  · rw [oth mh (neRm (k1'.trans m1)), k1']; exact m1
  · rw [oth mt (neRm (k2'.trans m2)), k2']; exact m2
/-- 'r.wild = b' -/
theorem Core.setWild (h : Core w B N0 F X R n Hb mh mt ho rp hs wd Lo Lr Lh) (b : Bool) : Core (w.setCell ⟨R, 9, none⟩ (.bool b)) B N0 F X R n Hb mh mt ho rp hs b Lo Lr Lh := by
  obtain ⟨es1, k1, es2, k2, m1, m2⟩ := h.maps
  have oth : ∀ k, k ≠ R → (w.setCell ⟨R, 9, none⟩ (.bool b)).heap[k]? = w.heap[k]? := fun k hb => Below.heap_setCell _ _ _ _ hb
  have neR : ∀ {k : Nat} {cur : Array Value} {e : TypeId} {fr : Nat × Nat}, w.heap[k]? = some (.cells cur e fr) → e ≠ 57 → k ≠ R := fun hb he e => by
    subst e; rw [h.hR] at hb; simp only [Option.some.injEq, Obj.cells.injEq] at hb; exact he hb.2.1.symm
  have neRm : ∀ {k : Nat} {es : Array MapEntry} {ck : Nat}, w.heap[k]? = some (.map es ck) → k ≠ R := fun hb e => by
    subst e; rw [h.hR] at hb; cases hb
  have row : ∀ {e : TypeId} {size m : Nat} {v : Value} {cs : List Value}, Rw w B N0 F X e size v m cs → e ≠ 57 → Rw (w.setCell ⟨R, 9, none⟩ (.bool b)) B N0 F X e size v m cs := fun hr he =>
    hr.congr (fun k hk => by
      obtain ⟨cur, hc⟩ := own_block hr.own hk
      exact oth k (neR hc he))
  have hsz : w.heap.size ≤ (w.setCell ⟨R, 9, none⟩ (.bool b)).heap.size := by simp [World.setCell]
  refine ⟨?_, ?_, h.len, row h.oo (by decide), row h.orp (by decide), fun c v hv => row (h.oh c v hv) (by decide), h.apart, h.gR, h.gH, h.gmh, h.gmt,
    fun x hx => Nat.lt_of_lt_of_le (h.xs x hx) hsz, Nat.le_trans h.n0 hsz, h.bN, ⟨es1, k1, es2, k2, ?_, ?_⟩, h.mne⟩
  · exact heap_set_same (a := ⟨R, 9, none⟩) rfl h.hR
  · rw [oth Hb (neR h.hH (by decide))]; exact h.hH
  · rw [oth mh (neRm m1)]; exact m1
  · rw [oth mt (neRm m2)]; exact m2

/-- a map of the rules' has turned, and nothing else -/
theorem Core.turned (h : Core w B N0 F X R n Hb mh mt ho rp hs wd Lo Lr Lh) {m : Nat} (hm : m = mh ∨ m = mt) (ht : w.mapTurned w' m) : Core w' B N0 F X R n Hb mh mt ho rp hs wd Lo Lr Lh := by
  obtain ⟨es1, k1, es2, k2, m1, m2⟩ := h.maps
  have hg := ht.grown
  obtain ⟨es, ck, es', ck', hb, hw⟩ := ht
  have cm : ∀ {k : Nat} {cur : Array Value} {e : TypeId} {fr : Nat × Nat}, w.heap[k]? = some (.cells cur e fr) → w'.heap[k]? = w.heap[k]? := fun {k cur e fr} hk =>
    hg.block k (lt_of_some hk) (fun e => by cases e; rw [hb] at hk; cases hk)
  have key : ∀ {e : TypeId} {size m : Nat} {v : Value} {cs : List Value}, Rw w B N0 F X e size v m cs → Rw w' B N0 F X e size v m cs := fun hrw =>
    hrw.congr (fun k hk => by
      obtain ⟨cur, hc⟩ := own_block hrw.own hk
      exact cm hc)
  have mm : w'.heap[m]? = some (.map es' ck') := by rw [hw]; exact ChangeMaps.heap_setBlock_same hb _
  refine ⟨(cm h.hR).trans h.hR, (cm h.hH).trans h.hH, h.len, key h.oo, key h.orp, fun c v hv => key (h.oh c v hv), h.apart, h.gR, h.gH, h.gmh, h.gmt,
    fun x hx => Nat.lt_of_lt_of_le (h.xs x hx) hg.size, Nat.le_trans h.n0 hg.size, h.bN, ?_, h.mne⟩
  rcases hm with rfl | rfl
  · exact ⟨es', ck', es2, k2, mm, (hg.block mt (lt_of_some m2) (fun e => h.mne (by cases e; rfl))).trans m2⟩
  · exact ⟨es1, k1, es', ck', (hg.block mh (lt_of_some m1) (fun e => h.mne (by cases e; rfl))).trans m1, mm⟩

/-- 'r.held[c] = append(r.held[c], t)' -/
theorem Core.appendHeld (h : Core w B N0 F X R n Hb mh mt ho rp hs wd Lo Lr Lh) {w2 : World} {g cap c : Nat} {v : Value} {t : Int × Int} (hc : hs[c]? = some v)
    (hown : w2.ownsRow B 60 2 (.slice (some ⟨g, 0, none⟩) ((Lh c).length + 1) cap) ((Lh c).length + 1) (cells2 (Lh c) ++ [.int .i64 t.1, .int .i64 t.2])) (hgrow : w.grownBy w2 v.ownBlock) (hat : v.ownBlock = some g ∨ g = w.heap.size) :
    Core (w2.setCell ⟨Hb, c, none⟩ (.slice (some ⟨g, 0, none⟩) ((Lh c).length + 1) cap)) B N0 F X R n Hb mh mt ho rp (hs.set c (.slice (some ⟨g, 0, none⟩) ((Lh c).length + 1) cap)) wd Lo Lr (fun j => if j = c then Lh c ++ [t] else Lh j) := by
  obtain ⟨es1, k1, es2, k2, m1, m2⟩ := h.maps
  have hv := h.oh c v hc
  have hcl : c < hs.length := (List.getElem?_eq_some_iff.1 hc).1
  have kR : w2.heap[R]? = w.heap[R]? := hgrow.block R (lt_of_some h.hR) (ne_type hv.own h.hR (by decide))
  have kH : w2.heap[Hb]? = w.heap[Hb]? := hgrow.block Hb (lt_of_some h.hH) (ne_type hv.own h.hH (by decide))
  have k1' : w2.heap[mh]? = w.heap[mh]? := hgrow.block mh (lt_of_some m1) (ne_map hv.own m1)
  have k2' : w2.heap[mt]? = w.heap[mt]? := hgrow.block mt (lt_of_some m2) (ne_map hv.own m2)
  obtain ⟨W, hW⟩ : ∃ W, W = w2.setCell ⟨Hb, c, none⟩ (.slice (some ⟨g, 0, none⟩) ((Lh c).length + 1) cap) := ⟨_, rfl⟩
  rw [← hW]
  have oth : ∀ b, b ≠ Hb → W.heap[b]? = w2.heap[b]? := fun b hb => by rw [hW]; exact Below.heap_setCell _ _ _ _ hb
  have neH : ∀ {b : Nat} {cur : Array Value} {e : TypeId} {fr : Nat × Nat}, w2.heap[b]? = some (.cells cur e fr) → e ≠ 61 → b ≠ Hb := fun hb he e => by
    subst e; rw [kH, h.hH] at hb; simp only [Option.some.injEq, Obj.cells.injEq] at hb; exact he hb.2.1.symm
  have neHm : ∀ {b : Nat} {es : Array MapEntry} {ck : Nat}, w2.heap[b]? = some (.map es ck) → b ≠ Hb := fun hb e => by
    subst e; rw [kH, h.hH] at hb; cases hb
  have row : ∀ {e : TypeId} {size m : Nat} {v : Value} {cs : List Value}, Rw w2 B N0 F X e size v m cs → e ≠ 61 → Rw W B N0 F X e size v m cs := fun hr he =>
    hr.congr (fun k hk => by
      obtain ⟨cur, hc⟩ := own_block hr.own hk
      exact oth k (neH hc he))
  have hsz : w.heap.size ≤ W.heap.size := by
    have : w2.heap.size = W.heap.size := by rw [hW]; simp [World.setCell]
    rw [← this]; exact hgrow.size
  have newg : ∀ {c' : Nat} {v' : Value}, hs[c']? = some v' → c ≠ c' → v'.ownBlock ≠ some g := fun {c' v'} hv' hne e => by
    rcases hat with h1 | h1
    · exact h.apart c c' v v' g hc hv' hne h1 e
    · obtain ⟨cur, hk⟩ := own_block (h.oh c' v' hv').own e
      have := lt_of_some hk
      omega
  refine ⟨?_, ?_, by rw [List.length_set]; exact h.len, row ⟨h.oo.own.kept hgrow (own_ne hv.own h.oo.own (by decide)), h.oo.mine⟩ (by decide), row ⟨h.orp.own.kept hgrow (own_ne hv.own h.orp.own (by decide)), h.orp.mine⟩ (by decide), ?_, ?_, h.gR, h.gH, h.gmh, h.gmt,
    fun x hx => Nat.lt_of_lt_of_le (h.xs x hx) hsz, Nat.le_trans h.n0 hsz, h.bN, ⟨es1, k1, es2, k2, ?_, ?_⟩, h.mne⟩
  · rw [oth R (neH (kR.trans h.hR) (by decide)), kR]; exact h.hR
  · rw [hW]
    have e : (hs.set c (.slice (some ⟨g, 0, none⟩) ((Lh c).length + 1) cap)).toArray = hs.toArray.setIfInBounds c (.slice (some ⟨g, 0, none⟩) ((Lh c).length + 1) cap) := by simp
    rw [e]
    exact heap_set_same (a := ⟨Hb, c, none⟩) rfl (kH.trans h.hH)
  · intro c' v' hv'
    by_cases e : c' = c
    · subst e
      have e0 : v' = .slice (some ⟨g, 0, none⟩) ((Lh c').length + 1) cap := by
        rw [List.getElem?_set_self hcl] at hv'
        exact (Option.some.inj hv').symm
      subst e0
      have e1 : (Lh c' ++ [t]).length = (Lh c').length + 1 := by simp
      have e2 : cells2 (Lh c' ++ [t]) = cells2 (Lh c') ++ [.int .i64 t.1, .int .i64 t.2] := by rw [cells2_append]; rfl
      rw [if_pos rfl, e1, e2]
      exact row (rw_new hv h.n0 h.xs hat hown) (by decide)
    · rw [if_neg e]
      rw [List.getElem?_set_ne (fun q => e q.symm)] at hv'
      have ho := h.oh c' v' hv'
      refine row ⟨ho.own.kept hgrow ?_, ho.mine⟩ (by decide)
      cases hq : v'.ownBlock with
      | none => exact .inl rfl
      | some k => exact .inr (fun q => h.apart c' c v' v k hv' hc e hq q.symm)
  · intro c1 c2 v1 v2 k h1 h2 hne hk
    by_cases e1 : c1 = c
    · subst e1
      rw [List.getElem?_set_self hcl] at h1
      cases h1
      rw [List.getElem?_set_ne hne] at h2
      obtain rfl : g = k := by simpa [Value.ownBlock] using hk
      exact newg h2 hne
    · rw [List.getElem?_set_ne (fun q => e1 q.symm)] at h1
      by_cases e2 : c2 = c
      · subst e2
        rw [List.getElem?_set_self hcl] at h2
        cases h2
        intro q
        have q' : g = k := by simpa [Value.ownBlock] using q
        subst q'
        exact newg h1 (fun q => e1 q.symm) hk
      · rw [List.getElem?_set_ne (fun q => e2 q.symm)] at h2
        exact h.apart c1 c2 v1 v2 k h1 h2 hne hk
  · rw [oth mh (neHm (k1'.trans m1)), k1']; exact m1
  · rw [oth mt (neHm (k2'.trans m2)), k2']; exact m2

end
end Go.Proofs.Qxb6608516a.adC
