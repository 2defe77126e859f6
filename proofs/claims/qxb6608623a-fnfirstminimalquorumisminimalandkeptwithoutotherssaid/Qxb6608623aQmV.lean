/- THE WALKS of the law's own helpers: the byte bounds, the distinct ids. -/
import Derived.Test.Qxb6608623aQmI
namespace Go.Proofs.Qxb6608623a.qmV
open Go.RowKit
open Go.Proofs.Qxb6608623a.Qm
open Go.Proofs.Qxb6608623a.qmW
open Go.Proofs.Qxb6608623a.qmS
open Go.Proofs.Qxb6608623a.qmI
set_option linter.unusedVariables false
set_option linter.unusedSimpArgs false

/-- the law's slice of voters: its cells -/
def Vs (w : World) (a : Option Addr) (vs : List Vt) : Prop := ∀ i v, vs[i]? = some v → ∃ b o, a = some ⟨b, o, none⟩ ∧ b < w.heap.size ∧ VtAt w b o i v
theorem Vs.below {w w' : World} {a : Option Addr} {vs : List Vt} (h : Vs w a vs) (hb : Below w.heap.size w w') : Vs w' a vs := fun i v hi => by
  obtain ⟨b, o, e, hl, hv⟩ := h i v hi
  exact ⟨b, o, e, Nat.lt_of_lt_of_le hl hb.size, hv.below hb hl⟩

set_option maxRecDepth 100000 in
set_option maxHeartbeats 1000000 in
theorem bytes7 (a : Option Addr) (n cap : Nat) (x1 x2 x3 : Value) (vs : List Vt) (hvs : vs.length = n) (hn : n ≤ maxLen) (w : World) (hV : Vs w a vs) :
    Calls Try.prog 7 #[.slice a n cap, x1, x2, x3] w fun e w' => ∃ r : Bool, e = .returned (.bool r) ∧ (r = true → ∀ v ∈ vs, v.id.size ≤ 1048576) ∧ w = w' := by
  have HV : Hid (Vs w a vs) := hV
  have HL : Hid (vs.length = n) := hvs
  unfold maxLen at hn
  clear hV hvs
  by_cases hbig : 1048576 < n
  · go_enter Try.func7, Try.ntmps7
    go_wp2
    go_ret
    exact ⟨false, rfl, fun h => absurd h (by simp), rfl⟩
  · go_enter Try.func7, Try.ntmps7
    go_wp2
    go_loopw [9, 10] (fun cv iv wr => ∃ i c : Nat, i ≤ n ∧ c ≤ 1048576 ∧ cv = .int .i64 c ∧ iv = .int .i64 i ∧ (∀ j v, j < i → vs[j]? = some v → v.id.size ≤ 1048576) ∧ w = wr) (fun _ iv _ => n - (intOf iv).toNat)
    case atStart => exact ⟨0, n, Nat.zero_le _, by omega, by go_num, by go_num, fun j v h => absurd h (by omega), rfl⟩
    case round =>
      obtain ⟨i, c, hi, hc, rfl, rfl, hall, rfl⟩ := hrel
      have HA : Hid (∀ j v, j < i → vs[j]? = some v → v.id.size ≤ 1048576) := hall
      clear hall
      by_cases hlt : i < n
      · obtain ⟨v, hv⟩ : ∃ v, vs[i]? = some v := ⟨_, List.getElem?_eq_getElem (by rw [HL.out]; exact hlt)⟩
        obtain ⟨b, o, rfl, hbl, d0, d1, d2⟩ := HV.out i v hv
        have HVi : Hid (vs[i]? = some v) := hv
        have i0 : (0 : Int) ≤ (i : Int) := Int.natCast_nonneg _
        have i1 : (i : Int) < (n : Int) := by omega
        clear hv
        generalize hsz : v.id.size = sz at *
        by_cases hs : 1048576 < sz
        · go_wp2
          go_ret
          exact ⟨false, rfl, fun h => absurd h (by simp), rfl⟩
        · by_cases hs2 : 1048576 < c + sz
          · go_wp2
            go_ret
            exact ⟨false, rfl, fun h => absurd h (by simp), rfl⟩
          · go_wp2
            go_roundw
            case rel => exact ⟨i + 1, c + sz, by omega, by omega, by go_num, by go_num, fun j u hj hu => (by
              rcases Nat.lt_or_ge j i with h | h
              · exact HA.out j u h hu
              · obtain rfl : j = i := by omega
                rw [HVi.out] at hu
                cases hu
                omega), by first | rfl | trivial⟩
            case measure => simp [intOf]; omega
      · obtain rfl : i = n := by omega
        go_wp2
        go_ret
        exact ⟨true, rfl, fun _ v hv => by
          obtain ⟨j, hj⟩ := List.getElem?_of_mem hv
          exact HA.out j v (by rw [← HL.out]; exact (List.getElem?_eq_some_iff.1 hj).1) hj, rfl⟩

set_option maxRecDepth 100000 in
set_option maxHeartbeats 1000000 in
theorem bytes8 (a : Option Addr) (n cap : Nat) (vs : List Vt) (hvs : vs.length = n) (hn : n ≤ 256) (hid : ∀ v ∈ vs, v.id.size ≤ 1048576) (w : World) (hV : Vs w a vs) :
    Calls Try.prog 8 #[.slice a n cap] w fun e w' => ∃ r : Nat, e = .returned (.int .i64 r) ∧ r ≤ 4194304 ∧ w = w' := by
  have HV : Hid (Vs w a vs) := hV
  have HL : Hid (vs.length = n) := hvs
  have HI : Hid (∀ v ∈ vs, v.id.size ≤ 1048576) := hid
  clear hV hvs hid
  obtain ⟨N, hN⟩ : ∃ N, N = 32 * n := ⟨_, rfl⟩
  have eN : 32 * (n : Int) = (N : Int) := by omega
  have hN2 : N ≤ 8192 := by omega
  clear hN
  go_enter Try.func8, Try.ntmps8
  go_wp2
  go_loopw [3, 4] (fun cv iv wr => ∃ i c : Nat, i ≤ n ∧ c ≤ 2097152 ∧ cv = .int .i64 c ∧ iv = .int .i64 i ∧ w = wr) (fun _ iv _ => n - (intOf iv).toNat)
  case atStart => exact ⟨0, N, Nat.zero_le _, by omega, by go_num, by go_num, rfl⟩
  case round =>
    obtain ⟨i, c, hi, hc, rfl, rfl, rfl⟩ := hrel
    by_cases hlt : i < n
    · obtain ⟨v, hv⟩ : ∃ v, vs[i]? = some v := ⟨_, List.getElem?_eq_getElem (by rw [HL.out]; exact hlt)⟩
      obtain ⟨b, o, rfl, hbl, d0, d1, d2⟩ := HV.out i v hv
      have hsz := HI.out v (List.mem_of_getElem? hv)
      have i0 : (0 : Int) ≤ (i : Int) := Int.natCast_nonneg _
      have i1 : (i : Int) < (n : Int) := by omega
      clear hv
      generalize hsq : v.id.size = sz at *
      by_cases hs : 1048576 < c
      · go_wp2
        go_ret
        exact ⟨c, rfl, by omega, rfl⟩
      · go_wp2
        go_roundw
        case rel => exact ⟨i + 1, c + sz, by omega, by omega, by go_num, by go_num, by first | rfl | trivial⟩
        case measure => simp [intOf]; omega
    · obtain rfl : i = n := by omega
      go_wp2
      go_ret
      exact ⟨c, rfl, by omega, rfl⟩

theorem bytes_ne {x y : ByteArray} (h : x ≠ y) : (x.toList == y.toList) = false := by
  rw [beq_eq_false_iff_ne]
  intro e
  apply h
  rw [ByteArray.toList_eq, ByteArray.toList_eq] at e
  have := Array.ext' e
  cases x
  cases y
  simp_all
/-- no two of the first i alike, nor any of them like a later one -/
def Dst (vs : List Vt) (i : Nat) : Prop := ∀ p q u v, p < i → p < q → vs[p]? = some u → vs[q]? = some v → u.id ≠ v.id
set_option maxRecDepth 100000 in
set_option maxHeartbeats 1000000 in
theorem distinct9 (a : Option Addr) (n cap : Nat) (vs : List Vt) (hvs : vs.length = n) (hn : n ≤ 256) (w : World) (hV : Vs w a vs) :
    Calls Try.prog 9 #[.slice a n cap] w fun e w' => ∃ r : Bool, e = .returned (.bool r) ∧ (r = true → Dst vs n) ∧ Below w.heap.size w w' := by
  have HV : Hid (Vs w a vs) := hV
  have HL : Hid (vs.length = n) := hvs
  clear hV hvs
  go_enter Try.func9, Try.ntmps9
  go_wp2
  go_loopw [3] (fun iv wr => ∃ i : Nat, i ≤ n ∧ iv = .int .i64 i ∧ Dst vs i ∧ Below w.heap.size w wr) (fun iv _ => n - (intOf iv).toNat)
  case atStart => exact ⟨0, Nat.zero_le _, by go_num, fun p q u v h => absurd h (by omega), Below.refl _ _⟩
  case round =>
    obtain ⟨i, hi, rfl, hd, hbel⟩ := hrel
    have HD : Hid (Dst vs i) := hd
    have HB : Hid (Below w.heap.size w wr) := hbel
    clear hd hbel
    by_cases hlt : i < n
    · obtain ⟨u, hu⟩ : ∃ u, vs[i]? = some u := ⟨_, List.getElem?_eq_getElem (by rw [HL.out]; exact hlt)⟩
      have HU : Hid (vs[i]? = some u) := hu
      clear hu
      obtain ⟨wo, rfl⟩ : ∃ x : World, x = wr := ⟨_, rfl⟩
      go_wp2
      go_loopw [4] (fun jv wq => ∃ j : Nat, i + 1 ≤ j ∧ j ≤ n ∧ jv = .int .i64 j ∧ (∀ q v, i < q → q < j → vs[q]? = some v → u.id ≠ v.id) ∧ Below w.heap.size w wq) (fun jv _ => n - (intOf jv).toNat)
      case atStart => exact ⟨i + 1, Nat.le_refl _, by omega, by go_num, fun q v h1 h2 => absurd h2 (by omega), HB.out⟩
      case round =>
        obtain ⟨j, hij, hj, rfl, hall, hbel⟩ := hrel
        have HA : Hid (∀ q v, i < q → q < j → vs[q]? = some v → u.id ≠ v.id) := hall
        clear hall
        by_cases hjn : j < n
        · obtain ⟨v, hv⟩ : ∃ v, vs[j]? = some v := ⟨_, List.getElem?_eq_getElem (by rw [HL.out]; exact hjn)⟩
          obtain ⟨b, o, rfl, hbl, hVj⟩ := HV.out j v hv
          obtain ⟨b', o', he, _, hVi⟩ := HV.out i u HU.out
          simp only [Option.some.injEq, Addr.mk.injEq, and_true] at he
          obtain ⟨rfl, rfl⟩ := he
          obtain ⟨d0, _, _⟩ := hVj.below hbel hbl
          obtain ⟨e0, _, _⟩ := hVi.below hbel hbl
          have HVv : Hid (vs[j]? = some v) := hv
          have i0 : (0 : Int) ≤ (i : Int) := Int.natCast_nonneg _
          have i1 : (i : Int) < (n : Int) := by omega
          have j0 : (0 : Int) ≤ (j : Int) := Int.natCast_nonneg _
          have j1 : (j : Int) < (n : Int) := by omega
          clear hv hVi hVj
          by_cases hs : u.id = v.id
          · rw [← hs] at d0
            clear hs
            go_wp2_with fail
            go_quiet (fail)
            go_wp2
            go_ret
            exact ⟨false, rfl, fun h => absurd h (by simp), hbel.trans ((qmS.below_drewN _ _).mono hbel.size)⟩
          · have hb1 := bytes_ne hs
            have HS : Hid (u.id ≠ v.id) := hs
            clear hs
            go_wp2_with fail
            go_quiet (fail)
            go_wp2
            go_roundw
            case rel => exact ⟨j + 1, by omega, by omega, by go_num, fun q y h1 h2 hy => (by
              rcases Nat.lt_or_ge q j with h | h
              · exact HA.out q y h1 h hy
              · obtain rfl : q = j := by omega
                rw [HVv.out] at hy
                cases hy
                exact HS.out), hbel.trans ((qmS.below_drewN _ _).mono hbel.size)⟩
            case measure => simp [intOf]; omega
        · obtain rfl : j = n := by omega
          go_wp2
          go_roundw
          case rel => exact ⟨i + 1, by omega, by go_num, fun p q x y hp hpq hx hy => (by
            rcases Nat.lt_or_ge p i with h | h
            · exact HD.out p q x y h hpq hx hy
            · obtain rfl : p = i := by omega
              rw [HU.out] at hx
              cases hx
              exact HA.out q y hpq (by rw [← HL.out]; exact (List.getElem?_eq_some_iff.1 hy).1) hy), hbel⟩
          case measure => simp [intOf]; omega
    · obtain rfl : i = n := by omega
      go_wp2
      go_ret
      exact ⟨true, rfl, fun _ => HD.out, HB.out⟩
end Go.Proofs.Qxb6608623a.qmV
