/-
  The bounding functions laid by program; zzOverwritten.
-/
import Derived.Test.Qxb6615037aSess
namespace Go.Proofs.Qxb6615037a
open Go.RowKit

/-- the call returned a bool -/
def RetBool (e : Ending) : Prop := ∃ r, e = .returned (.bool r)
theorem RetBool.mk (r : Bool) : RetBool (.returned (.bool r)) := ⟨r, rfl⟩

set_option maxHeartbeats 400000 in
theorem bytes14 (a : Option Addr) (c : Nat) (ss : List Sess) (x1 : Int) (w : World) (hs : SRow w a ss) (hl : ss.length ≤ 9223372036854775807) :
    Calls Try.prog 14 #[.slice a ss.length c, .int .i64 x1] w fun e w' => RetBool e ∧ w' = w := by
  generalize hn : ss.length = n at hl ⊢
  have HN := hide hn
  clear hn
  go_enter Try.func14, Try.ntmps14
  go_wp2
  · go_ret
    exact ⟨RetBool.mk _, rfl⟩
  · go_loop [5, 6] (fun z i => ∃ (k : Nat) (t : Int), k ≤ n ∧ i = .int .i64 k ∧ z = .int .i64 t) (fun _ i => n - (intOf i).toNat)
    case atStart => exact ⟨0, _, Nat.zero_le _, rfl, rfl⟩
    case round =>
      obtain ⟨k, t, hk, rfl, rfl⟩ := hrel
      by_cases hlt : k < n
      · obtain ⟨b, o, rfl, hb, s, hsk, hsix⟩ := hs.at (i := k) (by rw [unhide HN]; exact hlt)
        obtain ⟨c0, c1, c2, c3, c4, c5⟩ := hsix
        clear hsk
        go_wp2
        all_goals first
          | (go_ret; exact ⟨RetBool.mk _, rfl⟩)
          | (go_round
             case rel => exact ⟨k + 1, _, by omega, by go_num, rfl⟩
             case measure => simp [intOf]; omega)
      · go_wp2
        go_ret
        exact ⟨RetBool.mk _, rfl⟩

set_option maxHeartbeats 400000 in
theorem bytes15 (a : Option Addr) (c : Nat) (ss : List Sess) (x1 x2 : Int) (w : World) (hs : SRow w a ss) (hl : ss.length ≤ 9223372036854775807) :
    Calls Try.prog 15 #[.slice a ss.length c, .int .i64 x1, .int .i64 x2] w fun e w' => RetBool e ∧ w' = w := by
  generalize hn : ss.length = n at hl ⊢
  have HN := hide hn
  clear hn
  go_enter Try.func15, Try.ntmps15
  go_wp2
  · go_ret
    exact ⟨RetBool.mk _, rfl⟩
  · go_loop [7, 8] (fun z i => ∃ (k : Nat) (t : Int), k ≤ n ∧ i = .int .i64 k ∧ z = .int .i64 t) (fun _ i => n - (intOf i).toNat)
    case atStart => exact ⟨0, _, Nat.zero_le _, rfl, rfl⟩
    case round =>
      obtain ⟨k, t, hk, rfl, rfl⟩ := hrel
      by_cases hlt : k < n
      · obtain ⟨b, o, rfl, hb, s, hsk, hsix⟩ := hs.at (i := k) (by rw [unhide HN]; exact hlt)
        obtain ⟨c0, c1, c2, c3, c4, c5⟩ := hsix
        clear hsk
        go_wp2
        all_goals first
          | (go_ret; exact ⟨RetBool.mk _, rfl⟩)
          | (go_round
             case rel => exact ⟨k + 1, _, by omega, by go_num, rfl⟩
             case measure => simp [intOf]; omega)
      · go_wp2
        go_ret
        exact ⟨RetBool.mk _, rfl⟩

set_option maxHeartbeats 400000 in
theorem bytes6 (a : Option Addr) (c : Nat) (ss : List Sess) (x1 x2 x3 x4 x5 x6 x7 : Int) (w : World) (hs : SRow w a ss) (hl : ss.length ≤ 9223372036854775807) :
    Calls Try.prog 6 #[.int .i64 x1, .int .i64 x2, .int .i64 x3, .int .i64 x4, .int .i64 x5, .int .i64 x6, .slice a ss.length c, .int .i64 x7] w fun e w' => RetBool e ∧ w' = w := by
  generalize hn : ss.length = n at hl ⊢
  have HN := hide hn
  clear hn
  go_enter Try.func6, Try.ntmps6
  go_wp2
  · go_ret
    exact ⟨RetBool.mk _, rfl⟩
  · go_loop [17, 18] (fun z i => ∃ (k : Nat) (t : Int), k ≤ n ∧ i = .int .i64 k ∧ z = .int .i64 t) (fun _ i => n - (intOf i).toNat)
    case atStart => exact ⟨0, _, Nat.zero_le _, rfl, rfl⟩
    case round =>
      obtain ⟨k, t, hk, rfl, rfl⟩ := hrel
      by_cases hlt : k < n
      · obtain ⟨b, o, rfl, hb, s, hsk, hsix⟩ := hs.at (i := k) (by rw [unhide HN]; exact hlt)
        obtain ⟨c0, c1, c2, c3, c4, c5⟩ := hsix
        clear hsk
        go_wp2
        all_goals first
          | (go_ret; exact ⟨RetBool.mk _, rfl⟩)
          | (go_round
             case rel => exact ⟨k + 1, _, by omega, by go_num, rfl⟩
             case measure => simp [intOf]; omega)
      · go_wp2
        go_ret
        exact ⟨RetBool.mk _, rfl⟩

theorem over_true {ss : List Sess} {i k : Nat} {s : Sess} {m : Int} (hk : ss[k]? = some s) (hi : i < k) (hm : s.num = m) : overB ss i m = true := by
  unfold overB
  rw [List.any_eq_true]
  refine ⟨s, ?_, by simp [hm]⟩
  refine List.mem_of_getElem? (i := k - (i + 1)) ?_
  rw [List.getElem?_drop, show i + 1 + (k - (i + 1)) = k from by omega]
  exact hk

/-- none of the sessions between i and k bears m -/
def NoneTo (ss : List Sess) (i k : Nat) (m : Int) : Prop := ∀ t, i < t → t < k → ∀ s, ss[t]? = some s → s.num ≠ m
theorem NoneTo.start (ss : List Sess) (i : Nat) (m : Int) : NoneTo ss i (i + 1) m := fun t h1 h2 => by omega
theorem NoneTo.succ {ss : List Sess} {i k : Nat} {m : Int} (h : NoneTo ss i k m) {s : Sess} (hs : ss[k]? = some s) (hm : s.num ≠ m) : NoneTo ss i (k + 1) m := by
  intro t h1 h2 u hu
  by_cases e : t = k
  · subst e; rw [hs] at hu; cases hu; exact hm
  · exact h t h1 (by omega) u hu
theorem over_false {ss : List Sess} {i : Nat} {m : Int} (h : NoneTo ss i ss.length m) : overB ss i m = false := by
  unfold overB
  rw [List.any_eq_false]
  intro s hs
  obtain ⟨j, hj⟩ := List.getElem?_of_mem hs
  rw [List.getElem?_drop] at hj
  have := h (i + 1 + j) (by omega) (List.getElem?_eq_some_iff.1 hj).1 s hj
  simpa using this

set_option maxHeartbeats 1000000 in
theorem over_any (a : Option Addr) (c : Nat) (ss : List Sess) (i : Nat) (si : Sess) (w : World) (hs : SRow w a ss) (hl : ss.length ≤ 1048576) (hsi : ss[i]? = some si) :
    Calls Try.prog 22 #[.slice a ss.length c, .int .i64 (i : Int)] w fun e w' => e = .returned (.bool (overB ss i si.num)) ∧ ∃ q, w' = w.drewN q := by
  have hin : i < ss.length := (List.getElem?_eq_some_iff.1 hsi).1
  obtain ⟨b, o, rfl, hb, s0, hs0, hsix0⟩ := hs.at hin
  rw [hsi] at hs0
  cases hs0
  obtain ⟨e0, -, -, -, -, -⟩ := hsix0
  have HF := hide (@over_false ss i si.num)
  generalize hn : ss.length = n at hl hin HF ⊢
  have HN := hide hn
  clear hn
  have HSI := hide hsi
  clear hsi
  go_enter Try.func22, Try.ntmps22
  go_wp2
  go_loopw [5] (fun t wr => ∃ (k q : Nat), i + 1 ≤ k ∧ k ≤ n ∧ t = .int .i64 k ∧ NoneTo ss i k si.num ∧ wr = w.drewN q) (fun t _ => n - (intOf t).toNat)
  case atStart => exact ⟨i + 1, 0, Nat.le_refl _, by omega, by go_num, NoneTo.start _ _ _, rfl⟩
  case round =>
    obtain ⟨k, q, hk1, hk, rfl, hno, rfl⟩ := hrel
    have HNO := hide hno
    clear hno
    by_cases hlt : k < n
    · obtain ⟨b', o', hbo, hb', s, hsk, hsix⟩ := hs.at (i := k) (by rw [unhide HN]; exact hlt)
      cases hbo
      obtain ⟨c0, c1, c2, c3, c4, c5⟩ := hsix
      have HSK := hide hsk
      clear hsk
      have hi1 : (k : Int) < (n : Int) := by omega
      have hi2 : (i : Int) < (n : Int) := by omega
      by_cases heq : s.num = si.num
      · have heq' : (s.num == si.num) = true := by simp [heq]
        have HO := hide (over_true (i := i) (unhide HSK) (by omega) heq)
        clear heq
        go_wp2
        go_quiet (fail)
        go_wp2
        go_ret
        exact ⟨by rw [unhide HO]; rfl, q + nq, by rw [World.drewN_drewN]⟩
      · have heq' : (s.num == si.num) = false := by simp [heq]
        go_wp2
        go_quiet (fail)
        go_wp2
        go_roundw
        case rel => exact ⟨k + 1, _, by omega, by omega, by go_num, (unhide HNO).succ (unhide HSK) heq, rfl⟩
        case measure => simp [intOf]; omega
    · obtain rfl : k = n := by omega
      go_wp2
      go_ret
      exact ⟨by rw [unhide HF (unhide HNO)]; rfl, _, rfl⟩
end Go.Proofs.Qxb6615037a
