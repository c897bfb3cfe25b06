/-
  zzInstant, Before, Equal, Sub.
-/
import Derived.Test.Qxb6615037aTime
namespace Go.Proofs.Qxb6615037a
open Go.RowKit

/-- the instant n nanoseconds from Go's zero instant -/
def T (n : Int) : Value := .agg #[.int .u64 (n % 1000000000), .int .i64 (n / 1000000000), .pointer none]

theorem below1 {w w1 : World} {o : Obj} (hb : Below (w.alloc o).heap.size (w.alloc o) w1) : Below w.heap.size w w1 := ((Below.refl _ w).alloc (Nat.le_refl _) o).trans (hb.mono (by simp))
theorem below2 {w w1 : World} {o p : Obj} (hb : Below ((w.alloc o).alloc p).heap.size ((w.alloc o).alloc p) w1) : Below w.heap.size w w1 := below1 (below1 hb)

set_option maxHeartbeats 400000 in
theorem instant_any (n : Int) (w : World) (hn : -9223372036854775808 ≤ n ∧ n ≤ 9223372036854775807) :
    Calls Try.prog 19 #[.int .i64 n] w fun e w' => e = .returned (T n) ∧ Below w.heap.size w w' := by
  go_enter Try.func19, Try.ntmps19
  go_wp2_with fail
  refine (add_any 0 0 n _ (by omega) (by omega) hn).mono ?_
  rintro e w1 ⟨rfl, hb⟩
  simp only [tm, Int.zero_add]
  have hc : ∀ o, w1.cell? ⟨w.heap.size, o, none⟩ = #[Value.int .u64 0, Value.int .i64 0, Value.pointer none][o]? := fun o => by
    rw [hb.cell (p := ⟨w.heap.size, o, none⟩) (by simp), World.cell?_alloc_new]
  have hf : ∀ o, w1.frozen? ⟨w.heap.size, o, none⟩ = false := fun o => by
    rw [hb.frozen (p := ⟨w.heap.size, o, none⟩) (by simp), World.frozen?_alloc_new]
  go_wp2
  refine bodyPost_ret (v := T n) ?_ rfl ⟨rfl, ?_⟩
  · simp [results, Try.results19, go_sem, T, hc]
  · exact (((below1 hb).setCell (by simp) _).setCell (by simp) _).setCell (by simp) _

theorem and_two (a c : Int) (ha : 0 ≤ a ∧ a < 1000000000) (hc : 0 ≤ c ∧ c < 1000000000) : bits .and .u64 (bits .and .u64 a c) 9223372036854775808 = 0 := by
  have h : 0 ≤ bits .and .u64 a c ∧ bits .and .u64 a c ≤ a := by
    rw [u64_and a c ha.1 (by omega) hc.1 (by omega)]
    have := Nat.and_le_left (n := a.toNat) (m := c.toNat)
    omega
  exact and_top _ h.1 (by omega)

set_option maxHeartbeats 400000 in
theorem equal_same (a b : Int) (w : World) (ha : 0 ≤ a ∧ a < 1000000000) :
    Calls Try.prog 31 #[.agg #[.int .u64 a, .int .i64 b, .pointer none], .agg #[.int .u64 a, .int .i64 b, .pointer none]] w fun e w' => e = .returned (.bool true) ∧ Below w.heap.size w w' := by
  have hm := and_two a a ha ha
  go_enter Try.func31, Try.ntmps31
  go_wp2_with fail
  refine (sec_any _ a b _ ha (by go_simp) (by go_simp)).mono ?_
  rintro e w1 ⟨rfl, rfl⟩
  go_wp2_with fail
  refine (sec_any _ a b _ ha (by go_simp) (by go_simp)).mono ?_
  rintro e w1 ⟨rfl, rfl⟩
  go_wp2_with fail
  refine (nsec_any _ a _ ha (by go_simp)).mono ?_
  rintro e w1 ⟨rfl, rfl⟩
  go_wp2_with fail
  refine (nsec_any _ a _ ha (by go_simp)).mono ?_
  rintro e w1 ⟨rfl, rfl⟩
  go_wp2
  go_ret
  exact ⟨rfl, ((Below.refl _ _).alloc (Nat.le_refl _) _).alloc (by simp) _⟩

set_option maxHeartbeats 1000000 in
theorem before_any (a b c d : Int) (w : World) (ha : 0 ≤ a ∧ a < 1000000000) (hc : 0 ≤ c ∧ c < 1000000000) :
    Calls Try.prog 32 #[.agg #[.int .u64 a, .int .i64 b, .pointer none], .agg #[.int .u64 c, .int .i64 d, .pointer none]] w fun e w' => e = .returned (.bool (decide (1000000000 * b + a < 1000000000 * d + c))) ∧ Below w.heap.size w w' := by
  have hm := and_two a c ha hc
  rcases Int.lt_trichotomy b d with h | h | h
  · rw [decide_eq_true (by omega)]
    go_enter Try.func32, Try.ntmps32
    go_wp2_with fail
    refine (sec_any _ a b _ ha (by go_simp) (by go_simp)).mono ?_
    rintro e w1 ⟨rfl, rfl⟩
    go_wp2_with fail
    refine (sec_any _ c d _ hc (by go_simp) (by go_simp)).mono ?_
    rintro e w1 ⟨rfl, rfl⟩
    go_wp2
    go_ret
    exact ⟨rfl, ((Below.refl _ _).alloc (Nat.le_refl _) _).alloc (by simp) _⟩
  · subst h
    rw [show decide (1000000000 * b + a < 1000000000 * b + c) = decide (a < c) from decide_eq_decide.2 (by omega)]
    go_enter Try.func32, Try.ntmps32
    go_wp2_with fail
    refine (sec_any _ a b _ ha (by go_simp) (by go_simp)).mono ?_
    rintro e w1 ⟨rfl, rfl⟩
    go_wp2_with fail
    refine (sec_any _ c b _ hc (by go_simp) (by go_simp)).mono ?_
    rintro e w1 ⟨rfl, rfl⟩
    go_wp2_with fail
    refine (nsec_any _ a _ ha (by go_simp)).mono ?_
    rintro e w1 ⟨rfl, rfl⟩
    go_wp2_with fail
    refine (nsec_any _ c _ hc (by go_simp)).mono ?_
    rintro e w1 ⟨rfl, rfl⟩
    go_wp2
    go_ret
    exact ⟨rfl, ((Below.refl _ _).alloc (Nat.le_refl _) _).alloc (by simp) _⟩
  · rw [decide_eq_false (by omega)]
    have hne : (b == d) = false := by simp; omega
    go_enter Try.func32, Try.ntmps32
    go_wp2_with fail
    refine (sec_any _ a b _ ha (by go_simp) (by go_simp)).mono ?_
    rintro e w1 ⟨rfl, rfl⟩
    go_wp2_with fail
    refine (sec_any _ c d _ hc (by go_simp) (by go_simp)).mono ?_
    rintro e w1 ⟨rfl, rfl⟩
    go_wp2
    go_ret
    exact ⟨ret_bool (decide_eq_false (by omega)), ((Below.refl _ _).alloc (Nat.le_refl _) _).alloc (by simp) _⟩

theorem keepT {w w1 : World} {c1 c2 : Array Value} {t1 t2 : Nat} (hb : Below ((w.alloc (.cells c1 t1)).alloc (.cells c2 t2)).drew.heap.size ((w.alloc (.cells c1 t1)).alloc (.cells c2 t2)).drew w1) :
    ∀ o, w1.cell? ⟨w.heap.size, o, none⟩ = c1[o]? := by
  intro o
  rw [hb.cell (p := ⟨w.heap.size, o, none⟩) (by simp; omega)]
  have e : ((w.alloc (.cells c1 t1)).alloc (.cells c2 t2)).drew.heap[w.heap.size]? = some (.cells c1 t1) := by
    show ((w.heap.push _).push _)[w.heap.size]? = _
    rw [Array.getElem?_push, if_neg (by simp), Array.getElem?_push, if_pos rfl]
  unfold World.cell?
  rw [e]
  rfl

theorem belowT {w w1 : World} {o p : Obj} (hb : Below ((w.alloc o).alloc p).drew.heap.size ((w.alloc o).alloc p).drew w1) : Below w.heap.size w w1 ∧ w.heap.size ≤ w1.heap.size := by
  have h1 : Below w.heap.size w ((w.alloc o).alloc p).drew := (((Below.refl _ w).alloc (Nat.le_refl _) o).alloc (by simp) p).drew
  have h2 := hb.size
  simp at h2
  exact ⟨h1.trans (hb.mono (by simp; omega)), by omega⟩

set_option maxHeartbeats 1000000 in
theorem sub_any (a b c d : Int) (w : World) (ha : 0 ≤ a ∧ a < 1000000000) (hc : 0 ≤ c ∧ c < 1000000000) (hb : -100000000000 ≤ b ∧ b ≤ 100000000000) (hd : -100000000000 ≤ d ∧ d ≤ 100000000000)
    (hx : -9223372036854775808 ≤ 1000000000 * (b - d) + (a - c) ∧ 1000000000 * (b - d) + (a - c) ≤ 9223372036854775807) :
    Calls Try.prog 21 #[.agg #[.int .u64 a, .int .i64 b, .pointer none], .agg #[.int .u64 c, .int .i64 d, .pointer none]] w fun e w' => e = .returned (.int .i64 (1000000000 * (b - d) + (a - c))) ∧ Below w.heap.size w w' := by
  have hm := and_two a c ha hc
  have hw : wrap64 (wrap64 ((b - d) * 1000000000) + (a - c)) = 1000000000 * (b - d) + (a - c) := by
    unfold wrap64
    omega
  have hadd : ∀ W, Calls Try.prog 24 #[.agg #[.int .u64 c, .int .i64 d, .pointer none], .int .i64 (1000000000 * (b - d) + (a - c))] W fun e w' => e = .returned (.agg #[.int .u64 a, .int .i64 b, .pointer none]) ∧ Below W.heap.size W w' := by
    intro W
    have h := add_any c d (1000000000 * (b - d) + (a - c)) W hc hd hx
    rw [show (c + (1000000000 * (b - d) + (a - c))) % 1000000000 = a from by omega, show d + (c + (1000000000 * (b - d) + (a - c))) / 1000000000 = b from by omega] at h
    exact h
  generalize 1000000000 * (b - d) + (a - c) = X at *
  have HA := hide hadd
  clear hadd
  go_enter Try.func21, Try.ntmps21
  go_wp2_with fail
  refine (sec_any _ a b _ ha (by go_simp) (by go_simp)).mono ?_
  rintro e w1 ⟨rfl, rfl⟩
  go_wp2_with fail
  refine (sec_any _ c d _ hc (by go_simp) (by go_simp)).mono ?_
  rintro e w1 ⟨rfl, rfl⟩
  go_wp2_with fail
  refine (nsec_any _ a _ ha (by go_simp)).mono ?_
  rintro e w1 ⟨rfl, rfl⟩
  go_wp2_with fail
  refine (nsec_any _ c _ hc (by go_simp)).mono ?_
  rintro e w1 ⟨rfl, rfl⟩
  go_wp2_with fail
  go_region_with (first | (go_at_call 24; refine (unhide HA _).mono ?_; rintro e w1 ⟨rfl, hb1⟩; have hk1 := keepT hb1; have hl1 := belowT hb1) | (go_at_call 31; refine (equal_same a b _ ha).mono ?_; rintro e w2 ⟨rfl, hb2⟩))
  all_goals
    go_wp2
    go_ret
    exact ⟨rfl, hl1.1.trans (hb2.mono hl1.2)⟩
end Go.Proofs.Qxb6615037a
