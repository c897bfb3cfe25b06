/-
  A slice of strings as the walks are told of it; the two functions that bound the lengths.
-/
import Derived.Test.Qxb6608886aRows
import Derived.WalkKit
import Derived.WalkSpells
import Derived.LoopTactic
namespace Go.Proofs.Qxb6608886a
open Go.RowKit

/-- A slice of strings that holds 'ss'. -/
def SRow (w : World) (a : Option Addr) (ss : List ByteArray) : Prop :=
  ss = [] ∨ ∃ b o, a = some ⟨b, o, none⟩ ∧ b < w.heap.size ∧ ∀ i x, ss[i]? = some x → w.cell? ⟨b, o + i, none⟩ = some (.string x)

/-- the call returned a bool; where it is true P holds -/
def RetIf (P : Prop) (e : Ending) : Prop := ∃ r, e = .returned (.bool r) ∧ (r = true → P)
theorem RetIf.no (P : Prop) : RetIf P (.returned (.bool false)) := ⟨false, rfl, fun h => by cases h⟩
theorem RetIf.yes {P : Prop} (h : P) : RetIf P (.returned (.bool true)) := ⟨true, rfl, fun _ => h⟩

/-- every one of the first k strings is short -/
def Short (ss : List ByteArray) (k : Nat) : Prop := ∀ j, j < k → ∀ s, ss[j]? = some s → s.size ≤ 1048576
theorem Short.zero (ss : List ByteArray) : Short ss 0 := fun _ h => absurd h (Nat.not_lt_zero _)
theorem Short.succ {ss : List ByteArray} {k : Nat} (h : Short ss k) {s : ByteArray} (hs : ss[k]? = some s) (hl : (s.size : Int) ≤ 1048576) : Short ss (k + 1) := by
  intro j hj t ht
  by_cases e : j = k
  · subst e; rw [hs] at ht; cases ht; omega
  · exact h j (by omega) t ht

theorem SRow.at {w : World} {a : Option Addr} {ss : List ByteArray} (h : SRow w a ss) {i : Nat} (hi : i < ss.length) :
    ∃ b o, a = some ⟨b, o, none⟩ ∧ b < w.heap.size ∧ ∃ x, ss[i]? = some x ∧ w.cell? ⟨b, o + i, none⟩ = some (.string x) := by
  rcases h with rfl | ⟨b, o, rfl, hb, hc⟩
  · simp at hi
  · exact ⟨b, o, rfl, hb, ss[i], List.getElem?_eq_getElem hi, hc i _ (List.getElem?_eq_getElem hi)⟩

set_option maxHeartbeats 400000 in
theorem bytes_ins (a : Option Addr) (c : Nat) (ss : List ByteArray) (x y : ByteArray) (w : World) (hs : SRow w a ss) (hl : ss.length ≤ 9223372036854775807) :
    Calls Try.prog 9 #[.slice a ss.length c, .string x, .string y] w fun e w' => RetIf (Short ss ss.length) e ∧ w' = w := by
  generalize hn : ss.length = n at hl ⊢
  have HN : Hid (ss.length = n) := hn
  clear hn
  go_enter Try.func9, Try.ntmps9
  go_wp2
  · go_ret
    exact ⟨RetIf.no _, rfl⟩
  · go_loop [7, 8] (fun z i => ∃ (k : Nat) (t : Int), k ≤ n ∧ i = .int .i64 k ∧ z = .int .i64 t ∧ Short ss k) (fun _ i => n - (intOf i).toNat)
    case atStart => exact ⟨0, _, Nat.zero_le _, rfl, rfl, Short.zero _⟩
    case round =>
      obtain ⟨k, t, hk, rfl, rfl, hsh⟩ := hrel
      by_cases hlt : k < n
      · obtain ⟨b, o, rfl, hb, s, hsk, hcell⟩ := hs.at (i := k) (by rw [HN.out]; exact hlt)
        have HSK : Hid (ss[k]? = some s) := hsk
        clear hsk
        go_wp2
        all_goals first
          | (go_ret; exact ⟨RetIf.no _, rfl⟩)
          | (go_round
             case rel => exact ⟨k + 1, _, by omega, by go_num, rfl, hsh.succ HSK.out (by assumption)⟩
             case measure => simp [intOf]; omega)
      · obtain rfl : k = n := by omega
        have HSH : Hid (Short ss k) := hsh
        clear hsh
        go_wp2
        all_goals first
          | (go_ret; exact ⟨RetIf.no _, rfl⟩)
          | (go_ret; exact ⟨RetIf.yes HSH.out, rfl⟩)

set_option maxHeartbeats 400000 in
theorem bytes_front (a : Option Addr) (c : Nat) (ss : List ByteArray) (x : ByteArray) (w : World) (hs : SRow w a ss) (hl : ss.length ≤ 9223372036854775807) :
    Calls Try.prog 13 #[.string x, .slice a ss.length c] w fun e w' => RetIf (Short ss ss.length) e ∧ w' = w := by
  generalize hn : ss.length = n at hl ⊢
  have HN : Hid (ss.length = n) := hn
  clear hn
  go_enter Try.func13, Try.ntmps13
  go_wp2
  · go_ret
    exact ⟨RetIf.no _, rfl⟩
  · go_ret
    exact ⟨RetIf.no _, rfl⟩
  · go_ret
    exact ⟨RetIf.no _, rfl⟩
  · go_loop [5, 6] (fun z i => ∃ (k : Nat) (t : Int), k ≤ n ∧ i = .int .i64 k ∧ z = .int .i64 t ∧ Short ss k) (fun _ i => n - (intOf i).toNat)
    case atStart => exact ⟨0, _, Nat.zero_le _, rfl, rfl, Short.zero _⟩
    case round =>
      obtain ⟨k, t, hk, rfl, rfl, hsh⟩ := hrel
      by_cases hlt : k < n
      · obtain ⟨b, o, rfl, hb, s, hsk, hcell⟩ := hs.at (i := k) (by rw [HN.out]; exact hlt)
        have HSK : Hid (ss[k]? = some s) := hsk
        clear hsk
        go_wp2
        all_goals first
          | (go_ret; exact ⟨RetIf.no _, rfl⟩)
          | (go_round
             case rel => exact ⟨k + 1, _, by omega, by go_num, rfl, hsh.succ HSK.out (by assumption)⟩
             case measure => simp [intOf]; omega)
      · obtain rfl : k = n := by omega
        have HSH : Hid (Short ss k) := hsh
        clear hsh
        go_wp2
        all_goals first
          | (go_ret; exact ⟨RetIf.no _, rfl⟩)
          | (go_ret; exact ⟨RetIf.yes HSH.out, rfl⟩)
end Go.Proofs.Qxb6608886a
