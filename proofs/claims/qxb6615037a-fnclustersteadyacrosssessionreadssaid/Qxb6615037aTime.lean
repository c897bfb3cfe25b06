/-
  time.Time without a monotonic reading, as two numbers: wall (nanoseconds below a second), ext (seconds from Go's zero instant).
-/
import Derived.Test.Qxb6615037aRows
import Derived.WalkKit
import Derived.WalkSpells
import Derived.RegionTactic
import Derived.Deep.RegionWith
import Derived.Deep.QuietTactic
import Derived.BigQuiet
import Derived.Stop.LaidErr
namespace Go.Proofs.Qxb6615037a
open Go.RowKit

theorem hide {p : Prop} (h : p) : Hid p := h
theorem unhide {p : Prop} (h : Hid p) : p := h
theorem ret_bool {a b : Bool} (h : a = b) : Ending.returned (.bool a) = .returned (.bool b) := by rw [h]
theorem ret_int {k : IntKind} {a b : Int} (h : a = b) : Ending.returned (.int k a) = .returned (.int k b) := by rw [h]

theorem and_top (a : Int) (h0 : 0 ≤ a) (h1 : a < 1000000000) : bits .and .u64 a 9223372036854775808 = 0 := by
  rw [u64_and a _ h0 (by omega) (by omega) (by omega)]
  have e : (9223372036854775808 : Int).toNat = 2 ^ 63 := by decide
  rw [e]
  have : a.toNat &&& 2 ^ 63 = 0 := by
    apply Nat.eq_of_testBit_eq
    intro i
    rw [Nat.testBit_and, Nat.testBit_two_pow, Nat.zero_testBit]
    by_cases h : 63 = i
    · subst h
      rw [Nat.testBit_lt_two_pow (by omega)]
      rfl
    · simp [h]
  rw [this]; rfl

theorem and_mask (a : Int) (h0 : 0 ≤ a) (h1 : a < 1073741824) : bits .and .u64 a 1073741823 = a := by
  rw [u64_and a _ h0 (by omega) (by omega) (by omega)]
  have e : (1073741823 : Int).toNat = 2 ^ 30 - 1 := by decide
  rw [e, Nat.and_two_pow_sub_one_eq_mod]
  omega

set_option maxHeartbeats 400000 in
theorem sec_any (g : Nat) (a b : Int) (w : World) (ha : 0 ≤ a ∧ a < 1000000000) (c0 : w.cell? ⟨g, 0, none⟩ = some (.int .u64 a)) (c1 : w.cell? ⟨g, 1, none⟩ = some (.int .i64 b)) :
    Calls Try.prog 29 #[.pointer (some ⟨g, 0, none⟩)] w fun e w' => e = .returned (.int .i64 b) ∧ w' = w := by
  have hm := and_top a ha.1 ha.2
  go_enter Try.func29, Try.ntmps29
  go_wp2
  go_ret
  exact ⟨rfl, rfl⟩

set_option maxHeartbeats 400000 in
theorem nsec_any (g : Nat) (a : Int) (w : World) (ha : 0 ≤ a ∧ a < 1000000000) (c0 : w.cell? ⟨g, 0, none⟩ = some (.int .u64 a)) :
    Calls Try.prog 30 #[.pointer (some ⟨g, 0, none⟩)] w fun e w' => e = .returned (.int .i32 a) ∧ w' = w := by
  have hm := and_mask a ha.1 (by omega)
  go_enter Try.func30, Try.ntmps30
  go_wp2
  go_ret
  exact ⟨rfl, rfl⟩

set_option maxHeartbeats 400000 in
theorem addSec_any (g : Nat) (a b d : Int) (w : World) (ha : 0 ≤ a ∧ a < 1000000000) (hb : -1000000000000 ≤ b ∧ b ≤ 1000000000000) (hd : -1000000000000 ≤ d ∧ d ≤ 1000000000000)
    (c0 : w.cell? ⟨g, 0, none⟩ = some (.int .u64 a)) (c1 : w.cell? ⟨g, 1, none⟩ = some (.int .i64 b)) (f1 : w.frozen? ⟨g, 1, none⟩ = false) :
    Calls Try.prog 33 #[.pointer (some ⟨g, 0, none⟩), .int .i64 d] w fun e w' => e = .returned (.tuple #[]) ∧ w' = w.setCell ⟨g, 1, none⟩ (.int .i64 (b + d)) := by
  have hm := and_top a ha.1 ha.2
  have hbe : (decide (b < b + d) == decide (0 < d)) = true := by
    rw [beq_iff_eq]
    by_cases h : 0 < d
    · rw [decide_eq_true h, decide_eq_true (by omega)]
    · rw [decide_eq_false h, decide_eq_false (by omega)]
  go_enter Try.func33, Try.ntmps33
  go_wp2
  go_end0
  exact ⟨rfl, rfl⟩

/-- a time.Time of no monotonic reading, in UTC -/
def tm (a b : Int) : Value := .agg #[.int .u64 a, .int .i64 b, .pointer none]

theorem andNot_mask (a : Int) (h0 : 0 ≤ a) (h1 : a < 1073741824) : bits .andNot .u64 a 1073741823 = 0 := by
  rw [u64_andNot a _ h0 (by omega) (by omega) (by omega)]
  have e : 18446744073709551615 - (1073741823 : Int).toNat = (2 ^ 34 - 1) <<< 30 := by decide
  have : a.toNat &&& ((2 ^ 34 - 1) <<< 30) = 0 := by
    apply Nat.eq_of_testBit_eq
    intro i
    rw [Nat.testBit_and, Nat.testBit_shiftLeft, Nat.zero_testBit]
    by_cases h : 30 ≤ i
    · rw [Nat.testBit_lt_two_pow (Nat.lt_of_lt_of_le (show a.toNat < 2 ^ 30 by omega) (Nat.pow_le_pow_right (by omega) h))]
      rfl
    · simp [h]
  rw [e, this]
  rfl

theorem or_zero (a : Int) (h0 : 0 ≤ a) (h1 : a < 18446744073709551616) : bits .or .u64 0 a = a := by
  rw [u64_or 0 a (by omega) (by omega) h0 h1]
  simp
  omega

theorem tmod_bd (d : Int) : -1000000000 < d.tmod 1000000000 ∧ d.tmod 1000000000 < 1000000000 := by
  have h1 := Int.natAbs_tmod d 1000000000
  have h2 : d.natAbs % (1000000000 : Int).natAbs < (1000000000 : Int).natAbs := Nat.mod_lt _ (by decide)
  have h3 : (1000000000 : Int).natAbs = 1000000000 := by decide
  omega

set_option maxHeartbeats 1000000 in
theorem add_any (a b d : Int) (w : World) (ha : 0 ≤ a ∧ a < 1000000000) (hb : -100000000000 ≤ b ∧ b ≤ 100000000000) (hd : -9223372036854775808 ≤ d ∧ d ≤ 9223372036854775807) :
    Calls Try.prog 24 #[.agg #[.int .u64 a, .int .i64 b, .pointer none], .int .i64 d] w fun e w' => e = .returned (tm ((a + d) % 1000000000) (b + (a + d) / 1000000000)) ∧ Below w.heap.size w w' := by
  obtain ⟨q, hq⟩ : ∃ q, d.tdiv 1000000000 = q := ⟨_, rfl⟩
  obtain ⟨r, hr⟩ : ∃ r, d.tmod 1000000000 = r := ⟨_, rfl⟩
  have hdq : d = 1000000000 * q + r := by rw [← hq, ← hr]; exact (Int.mul_tdiv_add_tmod d 1000000000).symm
  have hr1 := tmod_bd d
  rw [hr] at hr1
  have hq1 : -9223372037 ≤ q ∧ q ≤ 9223372037 := by omega
  have hn := andNot_mask a ha.1 (by omega)
  rcases (show 1000000000 ≤ a + r ∨ a + r < 0 ∨ (0 ≤ a + r ∧ a + r < 1000000000) by omega) with h | h | h
  · have e1 : (a + d) % 1000000000 = a + r - 1000000000 := by omega
    have e2 : (a + d) / 1000000000 = q + 1 := by omega
    rw [e1, e2]
    have HD := hide hdq
    clear hdq e1 e2
    have ho := or_zero (a + r - 1000000000) (by omega) (by omega)
    have hm := and_top (a + r - 1000000000) (by omega) (by omega)
    go_enter Try.func24, Try.ntmps24
    go_wp2_with fail
    refine (nsec_any _ a _ ha (by go_simp)).mono ?_
    rintro e w1 ⟨rfl, rfl⟩
    go_wp2_with fail
    refine (addSec_any _ (a + r - 1000000000) b (q + 1) _ (by omega) (by omega) (by omega) (by go_simp) (by go_simp) (by go_simp)).mono ?_
    rintro e w1 ⟨rfl, rfl⟩
    go_wp2
    exact bodyPost_ret (v := .agg #[.int .u64 (a + r - 1000000000), .int .i64 (b + (q + 1)), .pointer none]) (by simp [results, Try.results24, go_sem]) rfl ⟨rfl, ((Below.refl _ _).alloc (Nat.le_refl _) _).alloc (by simp) _⟩
  · have e1 : (a + d) % 1000000000 = a + r + 1000000000 := by omega
    have e2 : (a + d) / 1000000000 = q - 1 := by omega
    rw [e1, e2]
    have HD := hide hdq
    clear hdq e1 e2
    have ho := or_zero (a + r + 1000000000) (by omega) (by omega)
    have hm := and_top (a + r + 1000000000) (by omega) (by omega)
    go_enter Try.func24, Try.ntmps24
    go_wp2_with fail
    refine (nsec_any _ a _ ha (by go_simp)).mono ?_
    rintro e w1 ⟨rfl, rfl⟩
    go_wp2_with fail
    refine (addSec_any _ (a + r + 1000000000) b (q - 1) _ (by omega) (by omega) (by omega) (by go_simp) (by go_simp) (by go_simp)).mono ?_
    rintro e w1 ⟨rfl, rfl⟩
    go_wp2
    exact bodyPost_ret (v := .agg #[.int .u64 (a + r + 1000000000), .int .i64 (b + (q - 1)), .pointer none]) (by simp [results, Try.results24, go_sem]) rfl ⟨rfl, ((Below.refl _ _).alloc (Nat.le_refl _) _).alloc (by simp) _⟩
  · have e1 : (a + d) % 1000000000 = a + r := by omega
    have e2 : (a + d) / 1000000000 = q := by omega
    rw [e1, e2]
    have HD := hide hdq
    clear hdq e1 e2
    have ho := or_zero (a + r) (by omega) (by omega)
    have hm := and_top (a + r) (by omega) (by omega)
    go_enter Try.func24, Try.ntmps24
    go_wp2_with fail
    refine (nsec_any _ a _ ha (by go_simp)).mono ?_
    rintro e w1 ⟨rfl, rfl⟩
    go_wp2_with fail
    refine (addSec_any _ (a + r) b (q) _ (by omega) (by omega) (by omega) (by go_simp) (by go_simp) (by go_simp)).mono ?_
    rintro e w1 ⟨rfl, rfl⟩
    go_wp2
    exact bodyPost_ret (v := .agg #[.int .u64 (a + r), .int .i64 (b + (q)), .pointer none]) (by simp [results, Try.results24, go_sem]) rfl ⟨rfl, ((Below.refl _ _).alloc (Nat.le_refl _) _).alloc (by simp) _⟩
end Go.Proofs.Qxb6615037a
