/-
  zzClusterDomain, Cluster, ZZRecordsCluster, zzRecordIs.
-/
import Derived.Test.Qxb6615037aLive2
import Derived.BigRegion
namespace Go.Proofs.Qxb6615037a
open Go.RowKit Go.Maps

theorem drew_cell (w : World) (a : Addr) : w.drew.cell? a = w.cell? a := rfl

theorem keep6 {w : World} {B i o : Nat} {v0 v1 v2 v3 v4 v5 : Value} (h : i ≠ B) : ((((((w.setCell ⟨B, 0, none⟩ v0).setCell ⟨B, 1, none⟩ v1).setCell ⟨B, 2, none⟩ v2).setCell ⟨B, 3, none⟩ v3).setCell ⟨B, 4, none⟩ v4).setCell ⟨B, 5, none⟩ v5).cell? ⟨i, o, none⟩ = w.cell? ⟨i, o, none⟩ := by
  simp only [setc h]

theorem keep6d {w : World} {B i o : Nat} {v0 v1 v2 v3 v4 v5 : Value} (h : i ≠ B) : ((((((w.setCell ⟨B, 0, none⟩ v0).setCell ⟨B, 1, none⟩ v1).setCell ⟨B, 2, none⟩ v2).setCell ⟨B, 3, none⟩ v3).setCell ⟨B, 4, none⟩ v4).setCell ⟨B, 5, none⟩ v5).drew.cell? ⟨i, o, none⟩ = w.cell? ⟨i, o, none⟩ := by
  rw [drew_cell]
  simp only [setc h]

theorem stored6 {w : World} {B t : Nat} {v0 v1 v2 v3 v4 v5 y0 y1 y2 y3 y4 y5 : Value} (h : w.heap[B]? = some (.cells #[y0, y1, y2, y3, y4, y5] t)) :
    ((((((w.setCell ⟨B, 0, none⟩ v0).setCell ⟨B, 1, none⟩ v1).setCell ⟨B, 2, none⟩ v2).setCell ⟨B, 3, none⟩ v3).setCell ⟨B, 4, none⟩ v4).setCell ⟨B, 5, none⟩ v5).heap[B]? = some (.cells #[v0, v1, v2, v3, v4, v5] t) := by
  have e0 : (w.setCell ⟨B, 0, none⟩ v0).heap[B]? = some (.cells #[v0, y1, y2, y3, y4, y5] t) := (setSame h).trans (by simp only [List.setIfInBounds_toArray, List.set_cons_zero])
  have e1 := (setSame (j := 1) (v := v1) e0).trans (show _ = some (Obj.cells #[v0, v1, y2, y3, y4, y5] t) by simp only [List.setIfInBounds_toArray, List.set_cons_zero, List.set_cons_succ])
  have e2 := (setSame (j := 2) (v := v2) e1).trans (show _ = some (Obj.cells #[v0, v1, v2, y3, y4, y5] t) by simp only [List.setIfInBounds_toArray, List.set_cons_zero, List.set_cons_succ])
  have e3 := (setSame (j := 3) (v := v3) e2).trans (show _ = some (Obj.cells #[v0, v1, v2, v3, y4, y5] t) by simp only [List.setIfInBounds_toArray, List.set_cons_zero, List.set_cons_succ])
  have e4 := (setSame (j := 4) (v := v4) e3).trans (show _ = some (Obj.cells #[v0, v1, v2, v3, v4, y5] t) by simp only [List.setIfInBounds_toArray, List.set_cons_zero, List.set_cons_succ])
  exact (setSame (j := 5) (v := v5) e4).trans (by simp only [List.setIfInBounds_toArray, List.set_cons_zero, List.set_cons_succ])

set_option maxHeartbeats 2000000 in
set_option maxRecDepth 100000 in
theorem cluster_any (st : Nat) (a b c d e f : Int) (t0 t1 t2 : Value) (w : World) (hC : Clus w st a b c d e f) (hst : st < w.heap.size) :
    Calls Try.prog 23 #[.agg #[.pointer (some ⟨st, 0, none⟩), t0, t1, t2]] w fun en w' =>
      en = .returned (.tuple #[.agg #[.int .i64 a, .int .i64 b, .int .i64 c, .int .i64 d, .int .i64 e, .int .i64 f], .bool (a != 0), .nilIface]) ∧ Below w.heap.size w w' := by
  have c2 := hC.c2
  have c3 := hC.c3
  have c4 := hC.c4
  have c5 := hC.c5
  have c6 := hC.c6
  have c7 := hC.c7
  clear hC
  go_enter Try.func23, Try.ntmps23
  go_wp2
  have hal : Below w.heap.size w ((w.alloc (.cells #[.pointer (some ⟨st, 0, none⟩), t0, t1, t2] 54)).alloc (.cells #[.int .i64 0, .int .i64 0, .int .i64 0, .int .i64 0, .int .i64 0, .int .i64 0] 86)) := ((Below.refl _ w).alloc (Nat.le_refl _) _).alloc (by simp) _
  have k : ∀ q, ((w.alloc (.cells #[.pointer (some ⟨st, 0, none⟩), t0, t1, t2] 54)).alloc (.cells #[.int .i64 0, .int .i64 0, .int .i64 0, .int .i64 0, .int .i64 0, .int .i64 0] 86)).cell? ⟨st, q, none⟩ = w.cell? ⟨st, q, none⟩ := fun q => hal.cell (p := ⟨st, q, none⟩) hst
  have hz0 : ((w.alloc (.cells #[.pointer (some ⟨st, 0, none⟩), t0, t1, t2] 54)).alloc (.cells #[.int .i64 0, .int .i64 0, .int .i64 0, .int .i64 0, .int .i64 0, .int .i64 0] 86)).heap[w.heap.size + 1]? = some (.cells #[.int .i64 0, .int .i64 0, .int .i64 0, .int .i64 0, .int .i64 0, .int .i64 0] 86) := by
    show ((w.heap.push _).push _)[w.heap.size + 1]? = _
    rw [Array.getElem?_push, if_pos (by simp)]
  have q2 := (k 2).trans c2
  have q3 := (k 3).trans c3
  have q4 := (k 4).trans c4
  have q5 := (k 5).trans c5
  have q6 := (k 6).trans c6
  have q7 := (k 7).trans c7
  have HAL := hide hal
  have HZ0 := hide hz0
  have zc := zcell hz0
  have zf := zfree hz0
  clear k hal hz0 c2 c3 c4 c5 c6 c7
  generalize ((w.alloc (.cells #[.pointer (some ⟨st, 0, none⟩), t0, t1, t2] 54)).alloc (.cells #[.int .i64 0, .int .i64 0, .int .i64 0, .int .i64 0, .int .i64 0, .int .i64 0] 86)) = W0 at *
  generalize hB : w.heap.size = B at *
  have hne : st ≠ B + 1 := by omega
  have S0 : ∀ o, W0.drew.cell? ⟨st, o, none⟩ = W0.cell? ⟨st, o, none⟩ := fun _ => rfl
  go_region_held3 (fun w' => ∀ o, w'.cell? ⟨st, o, none⟩ = W0.cell? ⟨st, o, none⟩) (first | with_reducible exact S0 | (intro o; with_reducible exact keep6d hne) | (intro o; with_reducible exact (keep6 hne).trans (S0 o))) (fail)
  have z3 := zcell (stored6 (v0 := .int .i64 a) (v1 := .int .i64 b) (v2 := .int .i64 c) (v3 := .int .i64 d) (v4 := .int .i64 e) (v5 := .int .i64 f) (unhide HZ0))
  have hb3 : Below B w ((((((W0.setCell ⟨B + 1, 0, none⟩ (.int .i64 a)).setCell ⟨B + 1, 1, none⟩ (.int .i64 b)).setCell ⟨B + 1, 2, none⟩ (.int .i64 c)).setCell ⟨B + 1, 3, none⟩ (.int .i64 d)).setCell ⟨B + 1, 4, none⟩ (.int .i64 e)).setCell ⟨B + 1, 5, none⟩ (.int .i64 f)) :=
    ((((((unhide HAL).setCell (Nat.le_succ B) _).setCell (Nat.le_succ B) _).setCell (Nat.le_succ B) _).setCell (Nat.le_succ B) _).setCell (Nat.le_succ B) _).setCell (Nat.le_succ B) _
  generalize ((((((W0.setCell _ _).setCell _ _).setCell _ _).setCell _ _).setCell _ _).setCell _ _) = W3 at *
  clear zc zf S0 q2 q3 q4 q5 q6 q7
  go_wp2
  refine bodyPost_ret (v := .tuple #[.agg #[.int .i64 a, .int .i64 b, .int .i64 c, .int .i64 d, .int .i64 e, .int .i64 f], .bool (a != 0), .nilIface]) ?_ rfl ⟨rfl, ?_⟩
  · simp [results, Try.results23, go_sem, z3]
  · rw [hB]; exact hb3.drew
end Go.Proofs.Qxb6615037a
