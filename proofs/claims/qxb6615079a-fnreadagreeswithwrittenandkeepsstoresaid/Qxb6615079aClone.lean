/-
  nestedBytes, cloneU, cloneInts.
-/
import Derived.Test.Qxb6615079aBase
import Derived.Laws.CopyRow
import Derived.Deep.WholeRow
import Derived.Laws.Cover3
import Derived.OwnWalk
import Derived.Lib.SliceRun
namespace Go.Proofs.Qxb6615079a
open Go.RowKit

set_option maxHeartbeats 1000000 in
theorem nested_any (a : Option Addr) (c : Nat) (cs : List In) (x : Int) (w : World) (hc : NRow w a cs) (hl : cs.length ≤ 1048576) :
    Calls Try.prog 12 #[.slice a cs.length c, .int .i64 x] w fun e w' => RetInt e ∧ w' = w := by
  generalize hn : cs.length = n at hl ⊢
  have HN := hide hn
  clear hn
  have HC := hide hc
  clear hc
  go_enter Try.func12, Try.ntmps12
  go_wp2
  all_goals first
    | (go_ret; exact ⟨RetInt.mk _, rfl⟩)
    | skip
  go_loopw [5, 6] (fun t i wr => ∃ (j : Nat) (z : Int), j ≤ n ∧ i = .int .i64 j ∧ t = .int .i64 z ∧ wr = w) (fun _ i _ => n - (intOf i).toNat)
  case atStart => exact ⟨0, _, Nat.zero_le _, rfl, rfl, rfl⟩
  case round =>
    obtain ⟨j, z, hj, rfl, rfl, hwr⟩ := hrel
    subst hwr
    by_cases hlt : j < n
    · obtain ⟨b, o, rfl, hb, ci, hci, hcell⟩ := (unhide HC).at (i := j) (by rw [unhide HN]; exact hlt)
      clear hci
      go_wp2
      all_goals first
        | (go_ret; exact ⟨RetInt.mk _, rfl⟩)
        | (go_roundw
           case rel => exact ⟨j + 1, _, by omega, by go_num, rfl, by first | rfl | trivial⟩
           case measure => simp [intOf]; omega)
    · go_wp2
      go_ret
      exact ⟨RetInt.mk _, rfl⟩

theorem make23 (k : Nat) (hk : k ≤ 1048576) (W : World) : Sem.run Try.prog (Instr.makeSlice 23 (.int .i64 (k : Int)) (.int .i64 (k : Int))) W =
    .ok (.slice (some ⟨W.heap.size, 0, none⟩) k k) (W.alloc (.cells (madeCells #[.int .u32 0] k) 38)) := by
  obtain ⟨i0, hi, hz0, hz1, hz2⟩ := info_parts (show (Try.prog.info? 38).map (fun i => (i.zero, i.size, i.bytes)) = some (some (.int .u32 0), 1, 4) by kernel_rfl)
  have h := run_make W 23 38 i0 (.int .u32 0) Try.underlying23 hi hz0 .i64 .i64 k k (by omega) (by omega) (by rw [hz2]; omega) (by omega)
  rw [h, hz1]
  simp [Value.cells]

theorem copy23 (w : World) (ad : Addr) (c : Nat) (xs : List Int) (D : Array Value) (hD : D.size = xs.length) (hs : VRow w (some ad) (xs.map (Value.int .u32))) :
    Sem.run Try.prog (Builtin.copy_ #[23, 23] 3 #[.slice (some ⟨w.heap.size, 0, none⟩) xs.length xs.length, .slice (some ad) xs.length c]) (w.alloc (.cells D 38)) =
      .ok (.int .i64 (xs.length : Int)) (w.alloc (.cells (xs.map (Value.int .u32)).toArray 38)) := by
  have h := run_copy_row Try.prog (w.alloc (.cells D 38)) 23 23 3 38 w.heap.size 0 xs.length xs.length ad xs.length c D 38 (xs.map (Value.int .u32)) Try.underlying23 (by kernel_rfl)
    (by show (w.heap.push _)[w.heap.size]? = _; simp) (by simp) (by
      intro j v hv
      rcases hs with hs | ⟨b, o, he, hb, hc⟩
      · rw [hs] at hv; simp at hv
      · cases he
        rw [WideShapes.add_plain]
        exact (World.cell?_alloc_lt w _ ⟨b, o + j, none⟩ hb).trans (hc j v hv)) (by simp; omega) (by
      intro v hv
      obtain ⟨x, _, rfl⟩ := List.mem_map.1 hv
      rfl)
  rw [h, World.setRow_alloc_new]
  have e : List.drop (0 + (xs.map (Value.int .u32)).length) D.toList = [] := by
    apply List.drop_eq_nil_of_le
    simp [hD]
  rw [e]
  simp [goInt]

set_option maxHeartbeats 1000000 in
set_option maxRecDepth 100000 in
theorem cloneU_any (a : Option Addr) (c : Nat) (xs : List Int) (w : World) (hr : VRow w a (xs.map (Value.int .u32))) (hl : xs.length ≤ 1048576) (ha : a = none → xs = [] ∧ c = 0) :
    Calls Try.prog 14 #[.slice a xs.length c] w fun e w' => ∃ v, e = .returned v ∧ w'.ownsRow w.heap.size 38 1 v xs.length (xs.map (Value.int .u32)) ∧ Below w.heap.size w w' := by
  cases a with
  | none =>
    obtain ⟨rfl, rfl⟩ := ha rfl
    have hq : ∀ (W : World) (a : Option Addr) (n c : Nat), (binOp .eql 23 (.slice a n c) (.slice none 0 0)).run Try.prog W = .ok (.bool a.isNone) W := fun W a n c => Lib.run_eql_slice_nil W _ _ a n c 0 0 Try.underlying23
    go_enter Try.func14, Try.ntmps14
    go_wp2
    go_ret
    exact ⟨_, rfl, World.ownsRow_nil _ _ _ _, Below.refl _ _⟩
  | some ad =>
    have hmk := make23 xs.length hl
    have hcp := copy23 w ad c xs (madeCells #[.int .u32 0] xs.length) (by simp [madeCells]) hr
    have HO : Hid ((w.alloc (.cells (xs.map (Value.int .u32)).toArray 38)).ownsRow w.heap.size 38 1 (.slice (some ⟨w.heap.size, 0, none⟩) xs.length xs.length) xs.length (xs.map (Value.int .u32))) := by
      refine ⟨by simp, .inr ⟨w.heap.size, xs.length, (xs.map (Value.int .u32)).toArray, rfl, Nat.le_refl _, ?_, Nat.le_refl _, by unfold maxLen; omega, by simp, by rw [Nat.mul_one, List.take_of_length_le (by simp)]⟩⟩
      show (w.heap.push _)[w.heap.size]? = _
      simp
    clear hr ha
    generalize (xs.map (Value.int .u32)) = vs at *
    generalize xs.length = n at *
    have hq : ∀ (W : World) (a : Option Addr) (n c : Nat), (binOp .eql 23 (.slice a n c) (.slice none 0 0)).run Try.prog W = .ok (.bool a.isNone) W := fun W a n c => Lib.run_eql_slice_nil W _ _ a n c 0 0 Try.underlying23
    go_enter Try.func14, Try.ntmps14
    go_wp2
    go_ret
    exact ⟨_, rfl, unhide HO, (Below.refl _ _).alloc (Nat.le_refl _) _⟩

theorem make51 (k : Nat) (hk : k ≤ 1048576) (W : World) : Sem.run Try.prog (Instr.makeSlice 51 (.int .i64 (k : Int)) (.int .i64 (k : Int))) W =
    .ok (.slice (some ⟨W.heap.size, 0, none⟩) k k) (W.alloc (.cells (madeCells #[.int .i64 0] k) 3)) := by
  obtain ⟨i0, hi, hz0, hz1, hz2⟩ := info_parts (show (Try.prog.info? 3).map (fun i => (i.zero, i.size, i.bytes)) = some (some (.int .i64 0), 1, 8) by kernel_rfl)
  have h := run_make W 51 3 i0 (.int .i64 0) Try.underlying51 hi hz0 .i64 .i64 k k (by omega) (by omega) (by rw [hz2]; omega) (by omega)
  rw [h, hz1]
  simp [Value.cells]

theorem copy51 (w : World) (ad : Addr) (c : Nat) (xs : List Int) (D : Array Value) (hD : D.size = xs.length) (hs : VRow w (some ad) (xs.map (Value.int .i64))) :
    Sem.run Try.prog (Builtin.copy_ #[51, 51] 3 #[.slice (some ⟨w.heap.size, 0, none⟩) xs.length xs.length, .slice (some ad) xs.length c]) (w.alloc (.cells D 3)) =
      .ok (.int .i64 (xs.length : Int)) (w.alloc (.cells (xs.map (Value.int .i64)).toArray 3)) := by
  have h := run_copy_row Try.prog (w.alloc (.cells D 3)) 51 51 3 3 w.heap.size 0 xs.length xs.length ad xs.length c D 3 (xs.map (Value.int .i64)) Try.underlying51 (by kernel_rfl)
    (by show (w.heap.push _)[w.heap.size]? = _; simp) (by simp) (by
      intro j v hv
      rcases hs with hs | ⟨b, o, he, hb, hc⟩
      · rw [hs] at hv; simp at hv
      · cases he
        rw [WideShapes.add_plain]
        exact (World.cell?_alloc_lt w _ ⟨b, o + j, none⟩ hb).trans (hc j v hv)) (by simp; omega) (by
      intro v hv
      obtain ⟨x, _, rfl⟩ := List.mem_map.1 hv
      rfl)
  rw [h, World.setRow_alloc_new]
  have e : List.drop (0 + (xs.map (Value.int .i64)).length) D.toList = [] := by
    apply List.drop_eq_nil_of_le
    simp [hD]
  rw [e]
  simp [goInt]

set_option maxHeartbeats 1000000 in
set_option maxRecDepth 100000 in
theorem cloneInts_any (a : Option Addr) (c : Nat) (xs : List Int) (w : World) (hr : VRow w a (xs.map (Value.int .i64))) (hl : xs.length ≤ 1048576) (ha : a = none → xs = [] ∧ c = 0) :
    Calls Try.prog 36 #[.slice a xs.length c] w fun e w' => ∃ v, e = .returned v ∧ w'.ownsRow w.heap.size 3 1 v xs.length (xs.map (Value.int .i64)) ∧ Below w.heap.size w w' := by
  cases a with
  | none =>
    obtain ⟨rfl, rfl⟩ := ha rfl
    have hq : ∀ (W : World) (a : Option Addr) (n c : Nat), (binOp .eql 51 (.slice a n c) (.slice none 0 0)).run Try.prog W = .ok (.bool a.isNone) W := fun W a n c => Lib.run_eql_slice_nil W _ _ a n c 0 0 Try.underlying51
    go_enter Try.func36, Try.ntmps36
    go_wp2
    go_ret
    exact ⟨_, rfl, World.ownsRow_nil _ _ _ _, Below.refl _ _⟩
  | some ad =>
    have hmk := make51 xs.length hl
    have hcp := copy51 w ad c xs (madeCells #[.int .i64 0] xs.length) (by simp [madeCells]) hr
    have HO : Hid ((w.alloc (.cells (xs.map (Value.int .i64)).toArray 3)).ownsRow w.heap.size 3 1 (.slice (some ⟨w.heap.size, 0, none⟩) xs.length xs.length) xs.length (xs.map (Value.int .i64))) := by
      refine ⟨by simp, .inr ⟨w.heap.size, xs.length, (xs.map (Value.int .i64)).toArray, rfl, Nat.le_refl _, ?_, Nat.le_refl _, by unfold maxLen; omega, by simp, by rw [Nat.mul_one, List.take_of_length_le (by simp)]⟩⟩
      show (w.heap.push _)[w.heap.size]? = _
      simp
    clear hr ha
    generalize (xs.map (Value.int .i64)) = vs at *
    generalize xs.length = n at *
    have hq : ∀ (W : World) (a : Option Addr) (n c : Nat), (binOp .eql 51 (.slice a n c) (.slice none 0 0)).run Try.prog W = .ok (.bool a.isNone) W := fun W a n c => Lib.run_eql_slice_nil W _ _ a n c 0 0 Try.underlying51
    go_enter Try.func36, Try.ntmps36
    go_wp2
    go_ret
    exact ⟨_, rfl, unhide HO, (Below.refl _ _).alloc (Nat.le_refl _) _⟩
end Go.Proofs.Qxb6615079a
