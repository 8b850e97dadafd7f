import Derived.Test.Qxb6612813aModsPrefix
namespace Go.Proofs.Qxb6612813aMods
open Go.RowKit

/-! ### THE PLAIN LAWS: no Go in sight -/
theorem size_lt (root rest : ByteArray) (c : UInt8) : root.data.toList.length < (root ++ ⟨#[c]⟩ ++ rest).data.toList.length := by
  simp [ByteArray.data_append]
theorem ext_ne (root rest : ByteArray) (c : UInt8) : (root.toList == (root ++ ⟨#[c]⟩ ++ rest).toList) = false := by
  rw [Lib.toList_data, Lib.toList_data, beq_eq_false_iff_ne]
  intro h
  have h1 := size_lt root rest c
  rw [← h] at h1
  omega
theorem ext_ne' (root rest : ByteArray) (c : UInt8) : ((root ++ ⟨#[c]⟩ ++ rest).toList == root.toList) = false := by
  rw [Lib.toList_data, Lib.toList_data, beq_eq_false_iff_ne]
  intro h
  have h1 := size_lt root rest c
  rw [h] at h1
  omega
theorem ext_prefix (root rest : ByteArray) (c : UInt8) :
    Lib.hasPrefix (root ++ ⟨#[c]⟩ ++ rest).data.toList (root ++ ⟨#[47]⟩).data.toList = (c == 47) := by
  unfold Lib.hasPrefix
  simp only [ByteArray.data_append, Array.toList_append, List.append_assoc]
  rw [Bool.eq_iff_iff, List.isPrefixOf_iff_prefix, List.prefix_append_right_inj]
  show [47] <+: [c] ++ rest.data.toList ↔ (c == 47) = true
  rw [List.singleton_append, List.cons_prefix_cons, beq_iff_eq]
  exact ⟨fun h => h.1.symm, fun h => ⟨h.symm, List.nil_prefix⟩⟩

theorem ret_no {p : Prop} [Decidable p] (h : ¬ p) : Ending.returned (.bool false) = .returned (.bool (decide p)) := by rw [decide_eq_false h]
theorem ret_yes {p : Prop} [Decidable p] (h : p) : Ending.returned (.bool true) = .returned (.bool (decide p)) := by rw [decide_eq_true h]

set_option maxHeartbeats 400000 in
theorem bytes5 (token root : ByteArray) (deep shared : Bool) (a : Option Addr) (n c : Nat) (timeout : Int) (rest : ByteArray) (w : World) (h0 : token.size ≤ maxLen) (h1 : root.size ≤ maxLen) (h4 : n ≤ maxLen) (h6 : rest.size ≤ maxLen) :
    Calls Trym.prog 5 #[.string token, .string root, .bool deep, .bool shared, .slice a n c, .int .i64 timeout, .string rest] w fun e w' => e = .returned (.bool (decide (token.size + root.size + n + rest.size ≤ 1048576))) ∧ w' = w := by
  unfold maxLen at h0 h1 h4 h6
  go_enter Trym.func5, Trym.ntmps5
  go_wp2
  all_goals
    go_ret
    first | exact ⟨ret_no (by omega), rfl⟩ | exact ⟨ret_yes (by omega), rfl⟩

set_option maxHeartbeats 400000 in
theorem bytes9 (token root : ByteArray) (deep shared : Bool) (a : Option Addr) (n c : Nat) (timeout ch : Int) (rest : ByteArray) (w : World) (h0 : token.size ≤ maxLen) (h1 : root.size ≤ maxLen) (h4 : n ≤ maxLen) (h6 : rest.size ≤ maxLen) :
    Calls Trym.prog 9 #[.string token, .string root, .bool deep, .bool shared, .slice a n c, .int .i64 timeout, .int .u8 ch, .string rest] w fun e w' => e = .returned (.bool (decide (token.size + root.size + n + rest.size ≤ 1048576))) ∧ w' = w := by
  unfold maxLen at h0 h1 h4 h6
  go_enter Trym.func9, Trym.ntmps9
  go_wp2
  all_goals
    go_ret
    first | exact ⟨ret_no (by omega), rfl⟩ | exact ⟨ret_yes (by omega), rfl⟩
end Go.Proofs.Qxb6612813aMods
