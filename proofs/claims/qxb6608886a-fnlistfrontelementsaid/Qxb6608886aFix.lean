/-
  hasPrefix, hasSuffix.
-/
import Derived.Test.Qxb6608886aParts
namespace Go.Proofs.Qxb6608886a
open Go.RowKit

set_option maxHeartbeats 400000 in
theorem pre_yes (s p : ByteArray) (w : World) (h1 : p.size ≤ s.size) :
    Calls Try.prog 11 #[.string s, .string p] w fun e w' => e = .returned (.bool ((s.extract 0 p.size).toList == p.toList)) ∧ w' = w := by
  go_enter Try.func11, Try.ntmps11
  go_wp2
  go_ret
  exact ⟨rfl, rfl⟩

set_option maxHeartbeats 400000 in
theorem suf_yes (s p : ByteArray) (w : World) (h0 : s.size ≤ 9000000000000000000) (h1 : p.size ≤ s.size) :
    Calls Try.prog 12 #[.string s, .string p] w fun e w' => e = .returned (.bool ((s.extract (s.size - p.size) s.size).toList == p.toList)) ∧ w' = w := by
  go_enter Try.func12, Try.ntmps12
  go_wp2
  go_ret
  exact ⟨rfl, rfl⟩

theorem str_eq {a b : ByteArray} (h : a.data.toList = b.data.toList) : (a.toList == b.toList) = true := by
  rw [ByteArray.toList_eq, ByteArray.toList_eq, h]
  simp

theorem pre_true (s p : ByteArray) (w : World) (h : ∃ t, s.data.toList = p.data.toList ++ t) :
    Calls Try.prog 11 #[.string s, .string p] w fun e w' => e = .returned (.bool true) ∧ w' = w := by
  obtain ⟨t, ht⟩ := h
  have h1 : p.size ≤ s.size := by
    have e : s.data.toList.length = (p.data.toList ++ t).length := by rw [ht]
    simp at e
    omega
  refine (pre_yes s p w h1).mono fun e w' ⟨he, hw⟩ => ⟨?_, hw⟩
  rw [he, str_eq (by
    have e1 : p.size = p.data.toList.length := by simp
    simp only [ByteArray.data_extract, Array.toList_extract, List.extract_eq_take_drop, List.drop_zero, Nat.sub_zero]
    rw [ht, e1, List.take_left])]

theorem suf_true (s p : ByteArray) (w : World) (h0 : s.size ≤ 9000000000000000000) (h : ∃ t, s.data.toList = t ++ p.data.toList) :
    Calls Try.prog 12 #[.string s, .string p] w fun e w' => e = .returned (.bool true) ∧ w' = w := by
  obtain ⟨t, ht⟩ := h
  have h2 : s.size = t.length + p.size := by
    have e : s.data.toList.length = (t ++ p.data.toList).length := by rw [ht]
    simpa using e
  refine (suf_yes s p w h0 (by omega)).mono fun e w' ⟨he, hw⟩ => ⟨?_, hw⟩
  rw [he, str_eq (by
    simp only [ByteArray.data_extract, Array.toList_extract, List.extract_eq_take_drop]
    rw [ht, show s.size - p.size = t.length from by omega, List.drop_left, List.take_of_length_le (by simp; omega)])]
end Go.Proofs.Qxb6608886a
