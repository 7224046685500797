/-
  Contracts of '(*NotLeaderError).Error' (6) and 'zzs0801aexpect' (7).
-/
import Derived.Test.YbulkpoiChecked
import Derived.WalkKit
import Derived.ProofKit
namespace Go.Proofs.Ybulkpoi
open Go.RowKit

/-- 'not the leader, and the cluster has no leader now' -/
def noLead : ByteArray := ⟨#[110, 111, 116, 32, 116, 104, 101, 32, 108, 101, 97, 100, 101, 114, 44, 32, 97, 110, 100, 32, 116, 104, 101, 32, 99, 108, 117, 115, 116, 101, 114, 32, 104, 97, 115, 32, 110, 111, 32, 108, 101, 97, 100, 101, 114, 32, 110, 111, 119]⟩
/-- 'not the leader: the leader is ' -/
def lead : ByteArray := ⟨#[110, 111, 116, 32, 116, 104, 101, 32, 108, 101, 97, 100, 101, 114, 58, 32, 116, 104, 101, 32, 108, 101, 97, 100, 101, 114, 32, 105, 115, 32]⟩
def msg (s : ByteArray) : ByteArray := if s.size = 0 then noLead else lead ++ s

theorem ret_str {a b : ByteArray} (h : a = b) : Ending.returned (.string a) = .returned (.string b) := by rw [h]

theorem empty_size {s : ByteArray} (h : s.toList.isEmpty = true) : s.size = 0 := by
  rw [ByteArray.toList_eq, List.isEmpty_iff] at h
  have h2 : s.data.toList.length = 0 := by rw [h]; rfl
  simpa using h2
theorem nonempty_size {s : ByteArray} (h : s.toList.isEmpty = false) : ¬ s.size = 0 := by
  intro h0
  have h2 : s.data.toList.length = 0 := by simpa using h0
  rw [ByteArray.toList_eq, List.eq_nil_of_length_eq_zero h2] at h
  simp at h

theorem error_any (s : ByteArray) (b : Nat) (w : World) (hs : s.size ≤ 4096) (hc : w.cell? ⟨b, 0, none⟩ = some (.string s)) :
    Calls Yba.prog 6 #[.pointer (some ⟨b, 0, none⟩)] w fun e w' => e = .returned (.string (msg s)) ∧ w' = w := by
  go_enter Yba.func6, Yba.ntmps6
  go_wp2
  all_goals go_ret
  · exact ⟨ret_str (by rw [msg, if_pos (empty_size ‹_›)]; rfl), rfl⟩
  · exact ⟨ret_str (by rw [msg, if_neg (nonempty_size ‹_›)]; rfl), rfl⟩
theorem expect_any (s : ByteArray) (w : World) (hs : s.size ≤ 4096) :
    Calls Yba.prog 7 #[.string s] w fun e w' => e = .returned (.string (msg s)) ∧ w' = w := by
  go_enter Yba.func7, Yba.ntmps7
  go_wp2
  all_goals go_ret
  · have h : ((s.size : Int) == 0) = true := by assumption
    exact ⟨ret_str (by rw [msg, if_pos (by simpa using h)]; rfl), rfl⟩
  · have h : ((s.size : Int) == 0) = false := by assumption
    exact ⟨ret_str (by rw [msg, if_neg (by simpa using h)]; rfl), rfl⟩

theorem lead_size : lead.size = 30 := by rfl
theorem lead_list : lead.data.toList = [110, 111, 116, 32, 116, 104, 101, 32, 108, 101, 97, 100, 101, 114, 58, 32, 116, 104, 101, 32, 108, 101, 97, 100, 101, 114, 32, 105, 115, 32] := by rfl
theorem noLead_at : noLead.data.toList[14]? = some 44 := by rfl
theorem lead_at : lead.data.toList[14]? = some 58 := by rfl
theorem msg_of_ne {s : ByteArray} (h : ¬ s.size = 0) : msg s = lead ++ s := by rw [msg, if_neg h]
theorem msg_size {s : ByteArray} (h : ¬ s.size = 0) : (msg s).size = 30 + s.size := by
  rw [msg_of_ne h, ByteArray.size_append, lead_size]
theorem msg_list {s : ByteArray} (h : ¬ s.size = 0) : (msg s).data.toList = lead.data.toList ++ s.data.toList := by
  rw [msg_of_ne h, ByteArray.data_append, Array.toList_append]
theorem eq_of_size {a b : ByteArray} (ha : a.size = 0) (hb : b.size = 0) : a = b := by
  apply WideShapes.bytes_inj
  have h1 : a.data.toList.length = 0 := by simpa using ha
  have h2 : b.data.toList.length = 0 := by simpa using hb
  rw [List.eq_nil_of_length_eq_zero h1, List.eq_nil_of_length_eq_zero h2]
theorem msg_parts {a b : ByteArray} (ha : ¬ a.size = 0) (hb : b.size = 0) : ¬ (msg a).data.toList = (msg b).data.toList := by
  intro h
  rw [msg_list ha, msg, if_pos hb] at h
  have h2 := congrArg (fun l => l[14]?) h
  simp only [noLead_at] at h2
  rw [List.getElem?_append_left (by rw [lead_list]; decide), lead_at] at h2
  simp at h2
theorem msg_inj (a b : ByteArray) : ((msg a).toList = (msg b).toList) ↔ (a.toList = b.toList) := by
  simp only [ByteArray.toList_eq]
  constructor
  · intro h
    by_cases ha : a.size = 0
    · by_cases hb : b.size = 0
      · rw [eq_of_size ha hb]
      · exact absurd h.symm (msg_parts hb ha)
    · by_cases hb : b.size = 0
      · exact absurd h (msg_parts ha hb)
      · rw [msg_list ha, msg_list hb] at h
        exact List.append_cancel_left h
  · intro h
    rw [WideShapes.bytes_inj h]
theorem key1 {a b : ByteArray} (h : (!(((msg a).toList == (msg b).toList) == (a.toList == b.toList))) = true) : False := by
  have : ((msg a).toList == (msg b).toList) = (a.toList == b.toList) := by
    rw [Bool.eq_iff_iff]; simp only [beq_iff_eq]; exact msg_inj a b
  rw [this] at h; simp at h
theorem ne_size {a : ByteArray} (h : (!a.toList.isEmpty) = true) : ¬ a.size = 0 := nonempty_size (by simpa using h)
theorem key2 {a : ByteArray} (h : (!a.toList.isEmpty) = true) (h2 : (((msg a).size : Int) != 30 + (a.size : Int)) = true) : False := by
  have := msg_size (ne_size h)
  simp at h2; omega
theorem key3 {a : ByteArray} (h : (!a.toList.isEmpty) = true) (h2 : (!(((msg a).extract 30 (msg a).size).toList == a.toList)) = true) : False := by
  have e : ((msg a).extract 30 (msg a).size).toList = a.toList := by
    have hs := msg_size (ne_size h)
    rw [ByteArray.toList_eq, ByteArray.toList_eq, ByteArray.data_extract, Array.toList_extract, msg_list (ne_size h), hs]
    have hl : lead.data.toList.length = 30 := by rw [lead_list]; rfl
    rw [List.extract_eq_take_drop, List.drop_append_of_le_length (by omega), List.drop_of_length_le (by omega), List.nil_append, List.take_of_length_le (by simp)]
  rw [e] at h2; simp at h2
theorem key4 {a : ByteArray} (h : (!a.toList.isEmpty) = true) (h2 : ¬ ((msg a).extract 0 30).toList = [110, 111, 116, 32, 116, 104, 101, 32, 108, 101, 97, 100, 101, 114, 58, 32, 116, 104, 101, 32, 108, 101, 97, 100, 101, 114, 32, 105, 115, 32]) : False := by
  apply h2
  rw [← lead_list, ByteArray.toList_eq, ByteArray.data_extract, Array.toList_extract, msg_list (ne_size h), List.extract_eq_take_drop]
  have hl : lead.data.toList.length = 30 := by rw [lead_list]; rfl
  rw [List.drop_zero, List.take_append_of_le_length (by omega), List.take_of_length_le (by omega)]
theorem key5 {a : ByteArray} (h : (!a.toList.isEmpty) = true) (h2 : ((msg a).size : Int) < 30) : False := by
  have := msg_size (ne_size h); omega
end Go.Proofs.Ybulkpoi
