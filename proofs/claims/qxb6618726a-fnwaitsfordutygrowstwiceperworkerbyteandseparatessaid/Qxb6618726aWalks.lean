import Derived.Test.Qxb6618726aRows
import Derived.WalkKit
import Derived.ProofKit
import Derived.OpenShut
import Derived.ShutString
import Derived.Below
namespace Go.Proofs.Qxb6618726a.duty
open Go.ChangeShapes Go.WideShapes Go.ChangeAt Go.RowKit

def k1 : ByteArray := ⟨#[40, 115, 101, 108, 101, 99, 116, 32, 99, 111, 117, 110, 116, 40, 112, 103, 95, 110, 111, 116, 105, 102, 121, 40, 39, 105, 107, 107, 97, 110, 95, 100, 117, 116, 121, 39, 44, 32]⟩
theorem k1_size : k1.size = 38 := rfl
def k2 : ByteArray := ⟨#[58, 58, 117, 117, 105, 100, 32, 124, 124, 32, 39, 32, 39, 32, 124, 124, 32, 108, 46, 105, 100, 41, 41, 10, 9, 9, 102, 114, 111, 109, 32, 105, 107, 107, 97, 110, 46, 108, 105, 115, 116, 101, 110, 101, 114, 115, 32, 108, 10, 9, 9, 119, 104, 101, 114, 101, 32, 108, 46, 116, 121, 112, 101, 115, 32, 61, 32]⟩
theorem k2_size : k2.size = 67 := rfl
def k3 : ByteArray := ⟨#[58, 58, 116, 101, 120, 116, 91, 93, 32, 97, 110, 100, 32, 108, 46, 100, 117, 116, 121, 95, 117, 110, 116, 105, 108, 32, 105, 115, 32, 110, 111, 116, 32, 110, 117, 108, 108, 32, 97, 110, 100, 32, 108, 46, 105, 100, 32, 60, 62, 32]⟩
theorem k3_size : k3.size = 50 := rfl
def k4 : ByteArray := ⟨#[58, 58, 117, 117, 105, 100, 41]⟩
theorem k4_size : k4.size = 7 := rfl

def duty (a b : ByteArray) : ByteArray := k1 ++ a ++ k2 ++ b ++ k3 ++ a ++ k4

theorem data_app (a b : ByteArray) : (a ++ b).data.toList = a.data.toList ++ b.data.toList := by rw [ByteArray.data_append, Array.toList_append]
theorem size_list (a : ByteArray) : a.data.toList.length = a.size := Array.length_toList

theorem duty_list (a b : ByteArray) : (duty a b).toList =
    k1.data.toList ++ a.data.toList ++ k2.data.toList ++ b.data.toList ++ k3.data.toList ++ a.data.toList ++ k4.data.toList := by
  rw [ByteArray.toList_eq]; unfold duty; simp only [data_app]

theorem duty_size (a b : ByteArray) : (duty a b).size = k1.size + a.size + k2.size + b.size + k3.size + a.size + k4.size := by
  unfold duty; simp only [ByteArray.size_append]

theorem duty_len (a b c : ByteArray) (ha : a.size ≤ 65536) (hb : b.size ≤ 65536) (hc : a.size = c.size) :
    ((duty a b).size : Int) = wrap64 (wrap64 (((duty ⟨#[]⟩ ⟨#[]⟩).size : Int) + 2 * (c.size : Int)) + (b.size : Int)) := by
  have e0 : (⟨#[]⟩ : ByteArray).size = 0 := rfl
  rw [duty_size, duty_size, k1_size, k2_size, k3_size, k4_size, e0]
  unfold wrap64
  omega

theorem duty_same {a b c d : ByteArray} (h : a.toList = c.toList) (h' : b.toList = d.toList) : (duty a b).toList = (duty c d).toList := by
  rw [ByteArray.toList_eq, ByteArray.toList_eq] at h h'
  rw [duty_list, duty_list, h, h']

theorem duty_inj {a b c d : ByteArray} (hc : a.size = c.size) (hd : b.size = d.size) (h : (duty a b).toList = (duty c d).toList) :
    a.toList = c.toList ∧ b.toList = d.toList := by
  rw [duty_list, duty_list] at h
  have ha : a.data.toList.length = c.data.toList.length := by rw [size_list, size_list, hc]
  have hb : b.data.toList.length = d.data.toList.length := by rw [size_list, size_list, hd]
  simp only [List.append_assoc] at h
  have h1 := List.append_cancel_left h
  obtain ⟨h2, h3⟩ := List.append_inj h1 ha
  have h4 := List.append_cancel_left h3
  obtain ⟨h5, _⟩ := List.append_inj h4 hb
  rw [ByteArray.toList_eq, ByteArray.toList_eq, ByteArray.toList_eq, ByteArray.toList_eq]
  exact ⟨h2, h5⟩

theorem ret_bool {b : Bool} (h : b = true) : Ending.returned (.bool b) = .returned (.bool true) := by rw [h]

theorem fin_eq {a b c d : ByteArray} (h : a.toList = c.toList) (hc : a.size = c.size) (hd : b.size = d.size) :
    ((duty a b).toList == (duty c d).toList) = (b.toList == d.toList) := by
  rw [Bool.eq_iff_iff, beq_iff_eq, beq_iff_eq]
  exact ⟨fun e => (duty_inj hc hd e).2, fun e => duty_same h e⟩

theorem fin_ne {a b c d : ByteArray} (h : ¬ a.toList = c.toList) (hc : a.size = c.size) (hd : b.size = d.size) :
    ((duty a b).toList == (duty c d).toList) = false := by
  rw [beq_eq_false_iff_ne]
  exact fun e => h (duty_inj hc hd e).1

theorem t6 (a b : ByteArray) (w : World) (ha : a.size ≤ 65536) (hb : b.size ≤ 65536) :
    Calls Try.prog 6 #[.string a, .string b] w fun e w' => e = .returned (.string (duty a b)) ∧ w' = w := by
  go_enter Try.func6, Try.ntmps6
  go_wp2
  go_ret
  exact ⟨rfl, rfl⟩

theorem t5 (a b : ByteArray) (w : World) (ha : a.size ≤ 65536) (hb : b.size ≤ 65536) :
    Calls Try.prog 5 #[.string a, .string b] w fun e w' => e = .returned (.string (duty a b)) ∧ w' = w := by
  go_enter Try.func5, Try.ntmps5
  go_wp2_with (go_at_call 6; refine (t6 _ _ _ ha hb).mono ?_; rintro e w' ⟨rfl, rfl⟩)
  go_ret
  exact ⟨rfl, rfl⟩

theorem t4 (a b c d : ByteArray) (w : World) (ha : a.size ≤ maxLen) (hb : b.size ≤ maxLen) (hc : c.size ≤ maxLen) (hd : d.size ≤ maxLen) :
    Calls Try.prog 4 #[.string a, .string b, .string c, .string d] w fun e w' => ∃ r : Bool, e = .returned (.bool r) ∧ w' = w := by
  unfold maxLen at ha hb hc hd
  go_enter Try.func4, Try.ntmps4
  go_wp2
  all_goals
    go_ret
    exact ⟨_, rfl, rfl⟩

set_option maxHeartbeats 400000 in
theorem t3 (a b c d : ByteArray) (w : World) (ha : a.size ≤ maxLen) (hb : b.size ≤ maxLen) (hc : c.size ≤ maxLen) (hd : d.size ≤ maxLen) :
    Calls Try.prog 3 #[.string a, .string b, .string c, .string d] w fun e w' => e = .returned (.bool true) ∧ w' = w := by
  go_enter Try.func3, Try.ntmps3
  go_wp2_with fail
  refine (t4 _ _ _ _ _ ha hb hc hd).mono ?_
  rintro e w' ⟨r, rfl, rfl⟩
  cases r
  · go_wp2
    go_ret
    exact ⟨rfl, rfl⟩
  · unfold maxLen at ha hb hc hd
    go_wp2_with fail
    all_goals first | (go_ret; exact ⟨rfl, rfl⟩) | skip
    refine (t5 _ _ _ (by decide) (by decide)).mono ?_
    rintro e w' ⟨rfl, rfl⟩
    go_wp2_with fail
    refine (t5 _ _ _ (by omega) (by omega)).mono ?_
    rintro e w' ⟨rfl, rfl⟩
    go_wp2_with fail
    refine (t5 _ _ _ (by omega) (by omega)).mono ?_
    rintro e w' ⟨rfl, rfl⟩
    go_wp2_with fail
    · rename_i h1 h2 h3 h4 h5 h6 h7
      exfalso
      rw [bne_iff_ne] at h7
      exact h7 (duty_len a b c (by omega) (by omega) (by omega))
    · rename_i h1 h2 h3 h4 h5 h6 h7 h8
      go_ret
      have hd' : b.size = d.size := by have := h6; simp at this; omega
      refine ⟨ret_bool (b := (((duty a b).toList == (duty c d).toList) == (b.toList == d.toList))) ?_, rfl⟩
      rw [fin_eq h8 (by omega) hd']; simp
    · rename_i h1 h2 h3 h4 h5 h6 h7 h8
      go_ret
      have hd' : b.size = d.size := by have := h6; simp at this; omega
      refine ⟨ret_bool (b := !((duty a b).toList == (duty c d).toList)) ?_, rfl⟩
      rw [fin_ne h8 (by omega) hd']; rfl
end Go.Proofs.Qxb6618726a.duty
