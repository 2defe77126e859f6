/- THE RULES AT A PHASE OF 'add': what each statement does to them, maps and frame with them. No walk here. -/
import Derived.Test.Qxb6608516aAdC
import Derived.Test.Qxb6608516aAdM
namespace Go.Proofs.Qxb6608516a.adH
open Go.RowKit
open Go.Proofs.Qxb6608516a.Ad
open Go.Proofs.Qxb6608516a.adC
open Go.Proofs.Qxb6608516a.adM (SetIs vH vT Ok keyT keyH vH_inj vT_inj law63 law60)
set_option linter.unusedVariables false

/-- the rules, whole: the row lists, the two sets, the frame since w0 -/
structure Full (w0 : World) (B N0 : Nat) (F : Nat → Prop) (X : List Nat) (R n Hb mh mt : Nat) (ho rp : Value) (hs : List Value) (wd : Bool) (Lo : List Int) (Lr : List Stp) (Lh : Nat → List (Int × Int)) (m1 : Nat) (L1 : List Stp) (m2 : Nat) (L2 : List (Int × Int)) (w : World) : Prop where
  core : Core w B N0 F X R n Hb mh mt ho rp hs wd Lo Lr Lh
  sh : SetIs 63 vH w mh m1 L1
  st : SetIs 60 vT w mt m2 L2
  tch : Tch F N0 w0 w

def Ph (w0 : World) (B N0 : Nat) (F : Nat → Prop) (X : List Nat) (R n Hb mh mt : Nat) (wd : Bool) (Lo : List Int) (Lr : List Stp) (Lh : Nat → List (Int × Int)) (m1 : Nat) (L1 : List Stp) (m2 : Nat) (L2 : List (Int × Int)) (w : World) : Prop :=
  ∃ ho rp hs, Full w0 B N0 F X R n Hb mh mt ho rp hs wd Lo Lr Lh m1 L1 m2 L2 w

section
variable {w0 w w2 : World} {B N0 : Nat} {F : Nat → Prop} {X : List Nat} {R n Hb mh mt : Nat} {ho rp : Value} {hs : List Value} {wd : Bool} {Lo : List Int} {Lr : List Stp} {Lh : Nat → List (Int × Int)} {m1 m2 : Nat} {L1 : List Stp} {L2 : List (Int × Int)}

theorem Full.alloc (h : Full w0 B N0 F X R n Hb mh mt ho rp hs wd Lo Lr Lh m1 L1 m2 L2 w) (o : Obj) : Full w0 B N0 F X R n Hb mh mt ho rp hs wd Lo Lr Lh m1 L1 m2 L2 (w.alloc o) := by
  obtain ⟨es1, k1, e1⟩ := h.sh.block
  obtain ⟨es2, k2, e2⟩ := h.st.block
  exact ⟨h.core.alloc o, h.sh.congr (Below.heap_alloc _ _ _ (lt_of_some e1)), h.st.congr (Below.heap_alloc _ _ _ (lt_of_some e2)), h.tch.alloc h.core.n0 o⟩
theorem Full.allocX (h : Full w0 B N0 F X R n Hb mh mt ho rp hs wd Lo Lr Lh m1 L1 m2 L2 w) (o : Obj) : Full w0 B N0 F (w.heap.size :: X) R n Hb mh mt ho rp hs wd Lo Lr Lh m1 L1 m2 L2 (w.alloc o) := by
  have h' := h.alloc o
  exact ⟨h.core.allocX o, h'.sh, h'.st, h'.tch⟩
theorem Full.drew (h : Full w0 B N0 F X R n Hb mh mt ho rp hs wd Lo Lr Lh m1 L1 m2 L2 w) : Full w0 B N0 F X R n Hb mh mt ho rp hs wd Lo Lr Lh m1 L1 m2 L2 w.drew :=
  ⟨h.core.drew, h.sh.congr rfl, h.st.congr rfl, h.tch.drew⟩

theorem Rw.dropX {e : TypeId} {size m : Nat} {v : Value} {cs : List Value} (h : Rw w B N0 F X e size v m cs) : Rw w B N0 F [] e size v m cs := ⟨h.own, fun k hk => ⟨(h.mine k hk).1, by simp⟩⟩
theorem Full.dropX (h : Full w0 B N0 F X R n Hb mh mt ho rp hs wd Lo Lr Lh m1 L1 m2 L2 w) : Full w0 B N0 F [] R n Hb mh mt ho rp hs wd Lo Lr Lh m1 L1 m2 L2 w :=
  ⟨⟨h.core.hR, h.core.hH, h.core.len, Rw.dropX h.core.oo, Rw.dropX h.core.orp, fun c v hv => Rw.dropX (h.core.oh c v hv), h.core.apart, h.core.gR, h.core.gH, h.core.gmh, h.core.gmt, fun x hx => by simp at hx, h.core.n0, h.core.bN, h.core.maps, h.core.mne⟩, h.sh, h.st, h.tch⟩
theorem set_grown {α : Type} [DecidableEq α] {k : TypeId} {val : α → Value} {b m : Nat} {L : List α} {e : TypeId} {size p : Nat} {v : Value} {cs : List Value} (h : SetIs k val w b m L) (hv : w.ownsRow B e size v p cs) (hg : w.grownBy w2 v.ownBlock) : SetIs k val w2 b m L := by
  obtain ⟨es, ck, hb⟩ := h.block
  exact h.congr (hg.block b (lt_of_some hb) (ne_map hv hb))
theorem set_cell {α : Type} [DecidableEq α] {k : TypeId} {val : α → Value} {b m : Nat} {L : List α} (h : SetIs k val w b m L) {a : Addr} {cur : Array Value} {t : TypeId} {fr : Nat × Nat} (ha : w.heap[a.block]? = some (.cells cur t fr)) (u : Value) : SetIs k val (w.setCell a u) b m L := by
  obtain ⟨es, ck, hb⟩ := h.block
  exact h.congr (Below.heap_setCell _ _ _ _ (fun e => by subst e; rw [ha] at hb; cases hb))

theorem Full.appendHolders (h : Full w0 B N0 F X R n Hb mh mt ho rp hs wd Lo Lr Lh m1 L1 m2 L2 w) {g cap : Nat} {c : Int}
    (hown : w2.ownsRow B 3 1 (.slice (some ⟨g, 0, none⟩) (Lo.length + 1) cap) (Lo.length + 1) (cells1 Lo ++ [.int .i64 c])) (hgrow : w.grownBy w2 ho.ownBlock) (hat : ho.ownBlock = some g ∨ g = w.heap.size) :
    Full w0 B N0 F X R n Hb mh mt (.slice (some ⟨g, 0, none⟩) (Lo.length + 1) cap) rp hs wd (Lo ++ [c]) Lr Lh m1 L1 m2 L2 (w2.setCell ⟨R, 6, none⟩ (.slice (some ⟨g, 0, none⟩) (Lo.length + 1) cap)) := by
  have kR : w2.heap[R]? = _ := (hgrow.block R (lt_of_some h.core.hR) (ne_type h.core.oo.own h.core.hR (by decide))).trans h.core.hR
  exact ⟨h.core.appendHolders hown hgrow hat, set_cell (set_grown h.sh h.core.oo.own hgrow) (a := ⟨R, 6, none⟩) kR _, set_cell (set_grown h.st h.core.oo.own hgrow) (a := ⟨R, 6, none⟩) kR _,
    (h.tch.grown hgrow h.core.n0 (fun k hk => (h.core.oo.mine k hk).1)).setCell h.core.gR _⟩
theorem Full.appendRep (h : Full w0 B N0 F X R n Hb mh mt ho rp hs wd Lo Lr Lh m1 L1 m2 L2 w) {g cap : Nat} {st : Stp}
    (hown : w2.ownsRow B 63 3 (.slice (some ⟨g, 0, none⟩) (Lr.length + 1) cap) (Lr.length + 1) (cells3 Lr ++ [.int .i64 st.1, .int .i64 st.2.1, .int .i64 st.2.2])) (hgrow : w.grownBy w2 rp.ownBlock) (hat : rp.ownBlock = some g ∨ g = w.heap.size) :
    Full w0 B N0 F X R n Hb mh mt ho (.slice (some ⟨g, 0, none⟩) (Lr.length + 1) cap) hs wd Lo (Lr ++ [st]) Lh m1 L1 m2 L2 (w2.setCell ⟨R, 11, none⟩ (.slice (some ⟨g, 0, none⟩) (Lr.length + 1) cap)) := by
  have kR : w2.heap[R]? = _ := (hgrow.block R (lt_of_some h.core.hR) (ne_type h.core.orp.own h.core.hR (by decide))).trans h.core.hR
  exact ⟨h.core.appendRep hown hgrow hat, set_cell (set_grown h.sh h.core.orp.own hgrow) (a := ⟨R, 11, none⟩) kR _, set_cell (set_grown h.st h.core.orp.own hgrow) (a := ⟨R, 11, none⟩) kR _,
    (h.tch.grown hgrow h.core.n0 (fun k hk => (h.core.orp.mine k hk).1)).setCell h.core.gR _⟩
theorem Full.appendHeld (h : Full w0 B N0 F X R n Hb mh mt ho rp hs wd Lo Lr Lh m1 L1 m2 L2 w) {g cap c : Nat} {v : Value} {t : Int × Int} (hc : hs[c]? = some v)
    (hown : w2.ownsRow B 60 2 (.slice (some ⟨g, 0, none⟩) ((Lh c).length + 1) cap) ((Lh c).length + 1) (cells2 (Lh c) ++ [.int .i64 t.1, .int .i64 t.2])) (hgrow : w.grownBy w2 v.ownBlock) (hat : v.ownBlock = some g ∨ g = w.heap.size) :
    Full w0 B N0 F X R n Hb mh mt ho rp (hs.set c (.slice (some ⟨g, 0, none⟩) ((Lh c).length + 1) cap)) wd Lo Lr (fun j => if j = c then Lh c ++ [t] else Lh j) m1 L1 m2 L2 (w2.setCell ⟨Hb, c, none⟩ (.slice (some ⟨g, 0, none⟩) ((Lh c).length + 1) cap)) := by
  have hv := h.core.oh c v hc
  have kH : w2.heap[Hb]? = _ := (hgrow.block Hb (lt_of_some h.core.hH) (ne_type hv.own h.core.hH (by decide))).trans h.core.hH
  exact ⟨h.core.appendHeld hc hown hgrow hat, set_cell (set_grown h.sh hv.own hgrow) (a := ⟨Hb, c, none⟩) kH _, set_cell (set_grown h.st hv.own hgrow) (a := ⟨Hb, c, none⟩) kH _,
    (h.tch.grown hgrow h.core.n0 (fun k hk => (hv.mine k hk).1)).setCell h.core.gH _⟩
theorem Full.setWild (h : Full w0 B N0 F X R n Hb mh mt ho rp hs wd Lo Lr Lh m1 L1 m2 L2 w) (b : Bool) : Full w0 B N0 F X R n Hb mh mt ho rp hs b Lo Lr Lh m1 L1 m2 L2 (w.setCell ⟨R, 9, none⟩ (.bool b)) :=
  ⟨h.core.setWild b, set_cell h.sh (a := ⟨R, 9, none⟩) h.core.hR _, set_cell h.st (a := ⟨R, 9, none⟩) h.core.hR _, h.tch.setCell h.core.gR _⟩

/-- 'r.holds[h] = struct{}{}' -/
theorem Full.storeH (h : Full w0 B N0 F X R n Hb mh mt ho rp hs wd Lo Lr Lh m1 L1 m2 L2 w) (s : Stp) (h1 : Ok s.1) (h2 : Ok s.2.1) (h3 : Ok s.2.2) (hm : m1 < maxLen) :
    ∃ w', (Instr.mapUpdate 49 (.map (some mh)) (vH s) (.agg #[])).run Try.prog w = .ok () w' ∧ Full w0 B N0 F X R n Hb mh mt ho rp hs wd Lo Lr Lh (m1 + 1) (L1 ++ [s]) m2 L2 w' ∧ w.mapTurned w' mh := by
  obtain ⟨w', hrun, hs', ht⟩ := h.sh.store law63 vH_inj Try.underlying49 hm s (keyH h1 h2 h3)
  have hg := ht.grown
  obtain ⟨es, ck, hb⟩ := h.st.block
  exact ⟨w', hrun, ⟨h.core.turned (.inl rfl) ht, hs', h.st.congr (hg.block mt (lt_of_some hb) (fun e => h.core.mne (by cases e; rfl))), h.tch.grown hg h.core.n0 (fun k hk => by cases hk; exact h.core.gmh)⟩, ht⟩
theorem Full.storeT (h : Full w0 B N0 F X R n Hb mh mt ho rp hs wd Lo Lr Lh m1 L1 m2 L2 w) (t : Int × Int) (h1 : Ok t.1) (h2 : Ok t.2) (hm : m2 < maxLen) :
    ∃ w', (Instr.mapUpdate 50 (.map (some mt)) (vT t) (.agg #[])).run Try.prog w = .ok () w' ∧ Full w0 B N0 F X R n Hb mh mt ho rp hs wd Lo Lr Lh m1 L1 (m2 + 1) (L2 ++ [t]) w' ∧ w.mapTurned w' mt := by
  obtain ⟨w', hrun, hs', ht⟩ := h.st.store law60 vT_inj Try.underlying50 hm t (keyT h1 h2)
  have hg := ht.grown
  obtain ⟨es, ck, hb⟩ := h.sh.block
  exact ⟨w', hrun, ⟨h.core.turned (.inr rfl) ht, h.sh.congr (hg.block mh (lt_of_some hb) (fun e => h.core.mne (by cases e; rfl))), hs', h.tch.grown hg h.core.n0 (fun k hk => by cases hk; exact h.core.gmt)⟩, ht⟩

/-- the cells of the struct -/
theorem at_R (k : w.heap[R]? = some (.cells (rcells n Hb ho mh mt wd rp) 57 (0, 0))) :
    w.cell? ⟨R, 5, none⟩ = some (.slice (some ⟨Hb, 0, none⟩) n n) ∧ w.cell? ⟨R, 6, none⟩ = some ho ∧ w.cell? ⟨R, 7, none⟩ = some (.map (some mh)) ∧ w.cell? ⟨R, 8, none⟩ = some (.map (some mt)) ∧
    w.cell? ⟨R, 9, none⟩ = some (.bool wd) ∧ w.cell? ⟨R, 11, none⟩ = some rp ∧ ∀ j, w.frozen? ⟨R, j, none⟩ = false := by
  simp [World.cell?, World.frozen?, k, rcells]
theorem at_H (k : w.heap[Hb]? = some (.cells hs.toArray 61 (0, 0))) {c : Nat} {v : Value} (hv : hs[c]? = some v) : w.cell? ⟨Hb, c, none⟩ = some v ∧ w.frozen? ⟨Hb, c, none⟩ = false := by
  simp [World.cell?, World.frozen?, k, hv]
theorem at_two {x : Nat} {t : TypeId} {u0 u1 : Value} (k : w.heap[x]? = some (.cells #[u0, u1] t (0, 0))) : w.cell? ⟨x, 0, none⟩ = some u0 ∧ w.cell? ⟨x, 1, none⟩ = some u1 := by
  simp [World.cell?, k]
theorem at_three {x : Nat} {t : TypeId} {u0 u1 u2 : Value} (k : w.heap[x]? = some (.cells #[u0, u1, u2] t (0, 0))) : w.cell? ⟨x, 0, none⟩ = some u0 ∧ w.cell? ⟨x, 1, none⟩ = some u1 ∧ w.cell? ⟨x, 2, none⟩ = some u2 := by
  simp [World.cell?, k]
theorem R_grown {e : TypeId} {size p : Nat} {v : Value} {cs : List Value} (h : Core w B N0 F X R n Hb mh mt ho rp hs wd Lo Lr Lh) (hr : Rw w B N0 F X e size v p cs) (he : 57 ≠ e) (hg : w.grownBy w2 v.ownBlock) : w2.heap[R]? = some (.cells (rcells n Hb ho mh mt wd rp) 57 (0, 0)) :=
  (hg.block R (lt_of_some h.hR) (ne_type hr.own h.hR he)).trans h.hR
theorem H_grown {e : TypeId} {size p : Nat} {v : Value} {cs : List Value} (h : Core w B N0 F X R n Hb mh mt ho rp hs wd Lo Lr Lh) (hr : Rw w B N0 F X e size v p cs) (he : 61 ≠ e) (hg : w.grownBy w2 v.ownBlock) : w2.heap[Hb]? = some (.cells hs.toArray 61 (0, 0)) :=
  (hg.block Hb (lt_of_some h.hH) (ne_type hr.own h.hH he)).trans h.hH

/-- a block that lies outside: kept by each of these -/
theorem out_grown {e : TypeId} {size p : Nat} {v : Value} {cs : List Value} {x : Nat} {o : Obj} (hr : Rw w B N0 F X e size v p cs) (hx : x ∈ X) (hb : w.heap[x]? = some o) (hg : w.grownBy w2 v.ownBlock) : w2.heap[x]? = some o :=
  (hg.block x (lt_of_some hb) (fun e => (hr.mine x e.symm).2 hx)).trans hb
theorem out_cell {x : Nat} {o : Obj} (hb : w.heap[x]? = some o) {a : Addr} (hne : x ≠ a.block) (u : Value) : (w.setCell a u).heap[x]? = some o := by
  rw [Below.heap_setCell _ _ _ _ hne]; exact hb
theorem out_turned {x m : Nat} {cur : Array Value} {e : TypeId} {fr : Nat × Nat} (hb : w.heap[x]? = some (.cells cur e fr)) (ht : w.mapTurned w2 m) : w2.heap[x]? = some (.cells cur e fr) := by
  have hg := ht.grown
  obtain ⟨es, ck, es', ck', hm, _⟩ := ht
  exact (hg.block x (lt_of_some hb) (fun q => by cases q; rw [hm] at hb; cases hb)).trans hb
theorem ne_of_types {x y : Nat} {c1 c2 : Array Value} {t1 t2 : TypeId} {f1 f2 : Nat × Nat} (h1 : w.heap[x]? = some (.cells c1 t1 f1)) (h2 : w.heap[y]? = some (.cells c2 t2 f2)) (h : t1 ≠ t2) : x ≠ y := by
  intro e; subst e; rw [h1] at h2; simp only [Option.some.injEq, Obj.cells.injEq] at h2; exact h h2.2.1
end
end Go.Proofs.Qxb6608516a.adH
