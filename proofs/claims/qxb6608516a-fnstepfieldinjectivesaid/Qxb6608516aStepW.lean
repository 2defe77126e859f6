import Derived.Test.Qxb6608516aProg
import Derived.WalkKit
import Derived.WalkLawsBesides
namespace Go.Proofs.Qxb6608516a.stepW
open Go.RowKit

theorem hat_list (a0 : ByteArray) : ((({ data := #[94] } : ByteArray) ++ a0)).toList = 94 :: a0.toList := by
  rw [ByteArray.toList_eq, ByteArray.toList_eq]; simp
theorem ext1 (a0 : ByteArray) : (!((({ data := #[94] } : ByteArray) ++ a0).extract 1 (1 + a0.size)).toList == a0.toList) = false := by
  have : (({ data := #[94] } : ByteArray) ++ a0).extract 1 (1 + a0.size) = a0 := by
    apply ByteArray.ext
    have h : a0.size = a0.data.size := rfl
    rw [ByteArray.data_extract, ByteArray.data_append, h]
    apply Array.toList_inj.1
    rw [Array.toList_extract]
    simp [List.extract]
    rw [h, ← Array.length_toList, List.take_length]
  rw [this]; simp
theorem ext0 (a0 : ByteArray) : (!(a0.extract 0 a0.size).toList == a0.toList) = false := by
  rw [ByteArray.extract_zero_size]; simp

/-- the text does not begin with a hat -/
def hatless (a : ByteArray) : Prop := ∀ (p : 0 < a.size), (((a[0]'p).toNat : Int) == 94) = false

theorem head_ne (a0 a2 : ByteArray) (h : hatless a2) : ((({ data := #[94] } : ByteArray) ++ a0).toList == a2.toList) = false := by
  rw [hat_list, beq_eq_false_iff_ne]
  intro e
  have e' : 94 :: a0.toList = a2.data.toList := by rw [e, ByteArray.toList_eq]
  have hp : 0 < a2.size := by
    show 0 < a2.data.size
    rw [← Array.length_toList, ← e']; simp
  have h1 : a2[0] = a2.data.toList[0]'(by rw [← e']; simp) := by simp [ByteArray.getElem_eq_getElem_data]
  have := h hp
  rw [h1] at this
  simp [← e'] at this
theorem head_ne' (a0 a2 : ByteArray) (h : hatless a0) : (a0.toList == (({ data := #[94] } : ByteArray) ++ a2).toList) = false := by
  rw [beq_eq_false_iff_ne]
  exact fun e => (beq_eq_false_iff_ne.1 (head_ne a2 a0 h)) e.symm
theorem both_hat (a0 a2 : ByteArray) : ((({ data := #[94] } : ByteArray) ++ a0).toList == (({ data := #[94] } : ByteArray) ++ a2).toList) = (a0.toList == a2.toList) := by
  rw [hat_list, hat_list]; simp
theorem ret_bool {a b : Bool} (h : a = b) : Ending.returned (.bool a) = .returned (.bool b) := by rw [h]
theorem hat94 : (!((({ data := #[94] } : ByteArray)[0]).toNat : Int) == 94) = false := rfl

set_option maxHeartbeats 1000000 in
theorem walkB0 (a0 : ByteArray) (a2 : ByteArray) (w0 : a0.size ≤ 65536) (w2 : a2.size ≤ 65536)
    (h0 : hatless a0) (h2 : hatless a2) (q : Bool) (he1 : (a0.toList == a2.toList) = q) (w : World) :
    Calls Try.prog 3 #[.string a0, .bool false, .string a2, .bool false] w fun e w' => e = .returned (.bool true) ∧ w = w' := by
  have e1 := ext1 a0
  have e0 := ext0 a0
  have n1 := head_ne a0 a2 h2
  have n2 := head_ne' a0 a2 h0
  have n3 := both_hat a0 a2
  by_cases p0 : 0 < a0.size <;> by_cases p2 : 0 < a2.size
  · have q0 := h0 p0
    have q2 := h2 p2
    clear h0 h2
    go_enter Try.func3, Try.ntmps3
    go_wp2
    all_goals go_ret
    all_goals exact ⟨ret_bool (by first | rfl | (cases q <;> simp_all)), rfl⟩
  · have q0 := h0 p0
    clear h0 h2
    go_enter Try.func3, Try.ntmps3
    go_wp2
    all_goals go_ret
    all_goals exact ⟨ret_bool (by first | rfl | (cases q <;> simp_all)), rfl⟩
  · have q2 := h2 p2
    clear h0 h2
    go_enter Try.func3, Try.ntmps3
    go_wp2
    all_goals go_ret
    all_goals exact ⟨ret_bool (by first | rfl | (cases q <;> simp_all)), rfl⟩
  · clear h0 h2
    go_enter Try.func3, Try.ntmps3
    go_wp2
    all_goals go_ret
    all_goals exact ⟨ret_bool (by first | rfl | (cases q <;> simp_all)), rfl⟩

set_option maxHeartbeats 1000000 in
theorem walkB1 (a0 : ByteArray) (a2 : ByteArray) (w0 : a0.size ≤ 65536) (w2 : a2.size ≤ 65536)
    (h0 : hatless a0) (h2 : hatless a2) (q : Bool) (he1 : (a0.toList == a2.toList) = q) (w : World) :
    Calls Try.prog 3 #[.string a0, .bool false, .string a2, .bool true] w fun e w' => e = .returned (.bool true) ∧ w = w' := by
  have e1 := ext1 a0
  have e0 := ext0 a0
  have n1 := head_ne a0 a2 h2
  have n2 := head_ne' a0 a2 h0
  have n3 := both_hat a0 a2
  by_cases p0 : 0 < a0.size <;> by_cases p2 : 0 < a2.size
  · have q0 := h0 p0
    have q2 := h2 p2
    clear h0 h2
    go_enter Try.func3, Try.ntmps3
    go_wp2
    all_goals go_ret
    all_goals exact ⟨ret_bool (by first | rfl | (cases q <;> simp_all)), rfl⟩
  · have q0 := h0 p0
    clear h0 h2
    go_enter Try.func3, Try.ntmps3
    go_wp2
    all_goals go_ret
    all_goals exact ⟨ret_bool (by first | rfl | (cases q <;> simp_all)), rfl⟩
  · have q2 := h2 p2
    clear h0 h2
    go_enter Try.func3, Try.ntmps3
    go_wp2
    all_goals go_ret
    all_goals exact ⟨ret_bool (by first | rfl | (cases q <;> simp_all)), rfl⟩
  · clear h0 h2
    go_enter Try.func3, Try.ntmps3
    go_wp2
    all_goals go_ret
    all_goals exact ⟨ret_bool (by first | rfl | (cases q <;> simp_all)), rfl⟩

set_option maxHeartbeats 1000000 in
theorem walkB2 (a0 : ByteArray) (a2 : ByteArray) (w0 : a0.size ≤ 65536) (w2 : a2.size ≤ 65536)
    (h0 : hatless a0) (h2 : hatless a2) (q : Bool) (he1 : (a0.toList == a2.toList) = q) (w : World) :
    Calls Try.prog 3 #[.string a0, .bool true, .string a2, .bool false] w fun e w' => e = .returned (.bool true) ∧ w = w' := by
  have e1 := ext1 a0
  have e0 := ext0 a0
  have n1 := head_ne a0 a2 h2
  have n2 := head_ne' a0 a2 h0
  have n3 := both_hat a0 a2
  by_cases p0 : 0 < a0.size <;> by_cases p2 : 0 < a2.size
  · have q0 := h0 p0
    have q2 := h2 p2
    clear h0 h2
    go_enter Try.func3, Try.ntmps3
    go_wp2
    all_goals go_ret
    all_goals exact ⟨ret_bool (by first | rfl | (cases q <;> simp_all)), rfl⟩
  · have q0 := h0 p0
    clear h0 h2
    go_enter Try.func3, Try.ntmps3
    go_wp2
    all_goals go_ret
    all_goals exact ⟨ret_bool (by first | rfl | (cases q <;> simp_all)), rfl⟩
  · have q2 := h2 p2
    clear h0 h2
    go_enter Try.func3, Try.ntmps3
    go_wp2
    all_goals go_ret
    all_goals exact ⟨ret_bool (by first | rfl | (cases q <;> simp_all)), rfl⟩
  · clear h0 h2
    go_enter Try.func3, Try.ntmps3
    go_wp2
    all_goals go_ret
    all_goals exact ⟨ret_bool (by first | rfl | (cases q <;> simp_all)), rfl⟩

set_option maxHeartbeats 1000000 in
theorem walkB3 (a0 : ByteArray) (a2 : ByteArray) (w0 : a0.size ≤ 65536) (w2 : a2.size ≤ 65536)
    (h0 : hatless a0) (h2 : hatless a2) (q : Bool) (he1 : (a0.toList == a2.toList) = q) (w : World) :
    Calls Try.prog 3 #[.string a0, .bool true, .string a2, .bool true] w fun e w' => e = .returned (.bool true) ∧ w = w' := by
  have e1 := ext1 a0
  have e0 := ext0 a0
  have n1 := head_ne a0 a2 h2
  have n2 := head_ne' a0 a2 h0
  have n3 := both_hat a0 a2
  by_cases p0 : 0 < a0.size <;> by_cases p2 : 0 < a2.size
  · have q0 := h0 p0
    have q2 := h2 p2
    clear h0 h2
    go_enter Try.func3, Try.ntmps3
    go_wp2
    all_goals go_ret
    all_goals exact ⟨ret_bool (by first | rfl | (cases q <;> simp_all)), rfl⟩
  · have q0 := h0 p0
    clear h0 h2
    go_enter Try.func3, Try.ntmps3
    go_wp2
    all_goals go_ret
    all_goals exact ⟨ret_bool (by first | rfl | (cases q <;> simp_all)), rfl⟩
  · have q2 := h2 p2
    clear h0 h2
    go_enter Try.func3, Try.ntmps3
    go_wp2
    all_goals go_ret
    all_goals exact ⟨ret_bool (by first | rfl | (cases q <;> simp_all)), rfl⟩
  · clear h0 h2
    go_enter Try.func3, Try.ntmps3
    go_wp2
    all_goals go_ret
    all_goals exact ⟨ret_bool (by first | rfl | (cases q <;> simp_all)), rfl⟩

theorem walkB (a0 : ByteArray) (b1 : Bool) (a2 : ByteArray) (b2 : Bool) (w0 : a0.size ≤ 65536) (w2 : a2.size ≤ 65536)
    (h0 : hatless a0) (h2 : hatless a2) (w : World) :
    Calls Try.prog 3 #[.string a0, .bool b1, .string a2, .bool b2] w fun e w' => e = .returned (.bool true) ∧ w = w' := by
  cases b1 <;> cases b2
  · exact walkB0 a0 a2 w0 w2 h0 h2 _ rfl w
  · exact walkB1 a0 a2 w0 w2 h0 h2 _ rfl w
  · exact walkB2 a0 a2 w0 w2 h0 h2 _ rfl w
  · exact walkB3 a0 a2 w0 w2 h0 h2 _ rfl w

/-- the ways on which the law says nothing: a long text, or one that begins with a hat -/
theorem walkS (a0 : ByteArray) (b1 : Bool) (a2 : ByteArray) (b2 : Bool) (w0 : a0.size ≤ maxLen) (w2 : a2.size ≤ maxLen) (h : 65536 < a0.size ∨ 65536 < a2.size) (w : World) :
    Calls Try.prog 3 #[.string a0, .bool b1, .string a2, .bool b2] w fun e w' => e = .returned (.bool true) ∧ w = w' := by
  unfold maxLen at w0 w2
  rcases h with h | h
  all_goals
    by_cases c1 : 1048576 < (a0.size : Int)
    · go_enter Try.func3, Try.ntmps3
      go_wp2
      go_ret
      exact ⟨rfl, rfl⟩
    by_cases c2 : 1048576 < (a2.size : Int)
    · go_enter Try.func3, Try.ntmps3
      go_wp2
      go_ret
      exact ⟨rfl, rfl⟩
    by_cases c3 : 1048576 < (a0.size : Int) + (a2.size : Int)
    · go_enter Try.func3, Try.ntmps3
      go_wp2
      go_ret
      exact ⟨rfl, rfl⟩
    by_cases c4 : 65536 < (a0.size : Int)
    · go_enter Try.func3, Try.ntmps3
      go_wp2
      all_goals go_ret
      all_goals exact ⟨rfl, rfl⟩
    go_enter Try.func3, Try.ntmps3
    go_wp2
    all_goals go_ret
    all_goals exact ⟨rfl, rfl⟩

theorem walkH0 (a0 : ByteArray) (b1 : Bool) (a2 : ByteArray) (b2 : Bool) (w0 : a0.size ≤ 65536) (w2 : a2.size ≤ 65536) (p0 : 0 < a0.size) (q0 : ((a0[0].toNat : Int) == 94) = true) (w : World) :
    Calls Try.prog 3 #[.string a0, .bool b1, .string a2, .bool b2] w fun e w' => e = .returned (.bool true) ∧ w = w' := by
  go_enter Try.func3, Try.ntmps3
  go_wp2
  go_ret
  exact ⟨rfl, rfl⟩

theorem walkH2 (a0 : ByteArray) (b1 : Bool) (a2 : ByteArray) (b2 : Bool) (w0 : a0.size ≤ 65536) (w2 : a2.size ≤ 65536) (h0 : hatless a0) (p2 : 0 < a2.size) (q2 : ((a2[0].toNat : Int) == 94) = true) (w : World) :
    Calls Try.prog 3 #[.string a0, .bool b1, .string a2, .bool b2] w fun e w' => e = .returned (.bool true) ∧ w = w' := by
  by_cases p0 : 0 < a0.size
  · have q0 := h0 p0
    clear h0
    go_enter Try.func3, Try.ntmps3
    go_wp2
    go_ret
    exact ⟨rfl, rfl⟩
  · clear h0
    go_enter Try.func3, Try.ntmps3
    go_wp2
    go_ret
    exact ⟨rfl, rfl⟩

theorem not_hatless {a : ByteArray} (h : ¬ hatless a) : ∃ p : 0 < a.size, (((a[0]'p).toNat : Int) == 94) = true := by
  by_cases p : 0 < a.size
  · refine ⟨p, ?_⟩
    cases hb : (((a[0]'p).toNat : Int) == 94) with
    | true => rfl
    | false => exact absurd (fun _ => hb) h
  · exact absurd (fun q => absurd q p) h

theorem walkAll (a0 : ByteArray) (b1 : Bool) (a2 : ByteArray) (b2 : Bool) (w0 : a0.size ≤ maxLen) (w2 : a2.size ≤ maxLen) (w : World) :
    Calls Try.prog 3 #[.string a0, .bool b1, .string a2, .bool b2] w fun e w' => e = .returned (.bool true) ∧ w = w' := by
  by_cases h : 65536 < a0.size ∨ 65536 < a2.size
  · exact walkS a0 b1 a2 b2 w0 w2 h w
  · have l0 : a0.size ≤ 65536 := by omega
    have l2 : a2.size ≤ 65536 := by omega
    by_cases h0 : hatless a0
    · by_cases h2 : hatless a2
      · exact walkB a0 b1 a2 b2 l0 l2 h0 h2 w
      · obtain ⟨p2, q2⟩ := not_hatless h2
        exact walkH2 a0 b1 a2 b2 l0 l2 h0 p2 q2 w
    · obtain ⟨p0, q0⟩ := not_hatless h0
      exact walkH0 a0 b1 a2 b2 l0 l2 p0 q0 w
end Go.Proofs.Qxb6608516a.stepW
