/-
  liveAt, record.
-/
import Derived.Test.Qxb6615037aStore
import Derived.Deep.RegionHeld3
namespace Go.Proofs.Qxb6615037a
open Go.RowKit Go.Maps

theorem zero82 (w : World) : (zeroValue 82).run Try.prog w = .ok (.pointer none) w := by kernel_rfl

/-- a session that is there: the look-up's answer, with and without 'ok' -/
theorem Store.look {w : World} {st mb n : Nat} {D : DataW Unit} {M : Int → Option Sess} (h : Store w st mb n D M) {k : Int} {s : Sess} (hk : M k = some s) (hw : (Lit.int .i64 k).wf = true) :
    ∃ p : Nat, w.heap[p]? = some (.cells (memCells s) 84) ∧
      ∀ W, Below w.heap.size w W → Sem.run Try.prog (Instr.lookup 66 (.map (some mb)) (.int .i64 k) true) W = .ok (.tuple #[.pointer (some ⟨p, 0, none⟩), .bool true]) W ∧
        Sem.run Try.prog (Instr.lookup 66 (.map (some mb)) (.int .i64 k) false) W = .ok (.pointer (some ⟨p, 0, none⟩)) W := by
  obtain ⟨_, p, hat, hb⟩ := h.yes k s hk
  refine ⟨p, hb, fun W hW => ?_⟩
  have h' := h.on hW
  have hkey : keyOf Try.prog 2 (.int .i64 k) = some (.int .i64 k) := keyOf_int_mk Try.underlying2 hw
  obtain ⟨v, ps, hrun, hv⟩ := h'.own.look_ok law2 Try.underlying66 (zero82 W) (show ptrElem (.pointer none) = some (.nil, []) from rfl) hkey
  obtain ⟨v2, ps2, hrun2, hv2⟩ := h'.own.lookup law2 Try.underlying66 (zero82 W) (show ptrElem (.pointer none) = some (.nil, []) from rfl) hkey
  rw [hat] at hv hv2
  rw [has_true_of_atKey hat] at hrun
  have key : ∀ {u : Value} {qs : List MemPlace}, ptrElem u = some (.lit (.int .i64 (p : Int)), qs) → u = .pointer (some ⟨p, 0, none⟩) := by
    intro u qs hu
    rcases ptrElem_inv hu with ⟨_, h2⟩ | ⟨b, rfl, h2⟩
    · cases h2
    · simp at h2
      obtain ⟨h2, _⟩ := h2
      have : b = p := by omega
      rw [this]
  rw [key hv] at hrun
  rw [key hv2] at hrun2
  exact ⟨hrun, hrun2⟩

theorem cellOf {w W : World} {p : Nat} {cs : Array Value} {t : Nat} (hp : w.heap[p]? = some (.cells cs t)) (hb : Below w.heap.size w W) : ∀ i, W.cell? ⟨p, i, none⟩ = cs[i]? := by
  intro i
  have e := (hb.block p (Array.getElem?_eq_some_iff.1 hp).1).trans hp
  unfold World.cell?
  rw [e]
  rfl

set_option maxHeartbeats 1000000 in
set_option maxRecDepth 100000 in
theorem liveAt_any (st mb n : Nat) (D : DataW Unit) (M : Int → Option Sess) (k : Int) (s : Sess) (now : Int) (w : World) (hS : Store w st mb n D M) (hk : M k = some s) (hw : (Lit.int .i64 k).wf = true) :
    Calls Try.prog 35 #[.pointer (some ⟨st, 0, none⟩), .int .i64 k, .agg #[.int .u64 (now % 1000000000), .int .i64 (now / 1000000000), .pointer none]] w fun e w' =>
      e = .returned (.bool (decide (now < s.exp))) ∧ Below w.heap.size w w' := by
  have hcell := hS.cell
  have hlt := hS.lt
  obtain ⟨p, hp, hlook⟩ := hS.look hk hw
  have hal : Below w.heap.size w (w.alloc (.cells #[.int .u64 (now % 1000000000), .int .i64 (now / 1000000000), .pointer none] 51)) := (Below.refl _ w).alloc (Nat.le_refl _) _
  have hl1 := (hlook _ hal).1
  have hc := cellOf hp hal
  have d2 := hc 2
  have d3 := hc 3
  have d4 := hc 4
  simp only [memCells] at d2 d3 d4
  rw [show decide (now < s.exp) = decide (1000000000 * (now / 1000000000) + now % 1000000000 < 1000000000 * (s.exp / 1000000000) + s.exp % 1000000000) from decide_eq_decide.2 (by omega)]
  have hn : 0 ≤ now % 1000000000 ∧ now % 1000000000 < 1000000000 := by omega
  have he : 0 ≤ s.exp % 1000000000 ∧ s.exp % 1000000000 < 1000000000 := by omega
  generalize now % 1000000000 = a at *
  generalize now / 1000000000 = b at *
  generalize s.exp % 1000000000 = c at *
  generalize s.exp / 1000000000 = d at *
  have HB := hide hal
  clear hS hlook hc hal hp hk
  go_enter Try.func35, Try.ntmps35
  go_wp2
  go_region_with (go_at_call 32; refine (before_any a b c d _ hn he).mono ?_; rintro e w1 ⟨rfl, hb1⟩)
  all_goals
    go_wp2
    go_ret
    exact ⟨rfl, ((unhide HB).drew).trans (hb1.mono (by simp))⟩

/-- the twelve cells of a session's record at now -/
def recCells (now : Int) (s : Sess) : Array Value := #[.int .i64 s.num, .string s.id, .string s.st, .bool s.rep, .bool (decide (now < s.exp)), .int .i64 s.prot, .int .u64 (s.exp % 1000000000), .int .i64 (s.exp / 1000000000), .pointer none, .int .i64 (s.exp - now), .int .i64 0, .int .i64 0]

theorem zcell {w : World} {p t : Nat} {z : Array Value} (h : w.heap[p]? = some (.cells z t)) : ∀ o, w.cell? ⟨p, o, none⟩ = z[o]? := by
  intro o
  unfold World.cell?
  rw [h]
  rfl
theorem zfree {w : World} {p t : Nat} {z : Array Value} (h : w.heap[p]? = some (.cells z t)) : ∀ o, w.frozen? ⟨p, o, none⟩ = false := by
  intro o
  unfold World.frozen?
  rw [h]
  simp

theorem setc {w : World} {B j i o : Nat} {v : Value} (h : i ≠ B) : (w.setCell ⟨B, j, none⟩ v).cell? ⟨i, o, none⟩ = w.cell? ⟨i, o, none⟩ :=
  World.cell?_of_block (w := w) (Below.heap_setCell w ⟨B, j, none⟩ v i h)

theorem keep12 {w : World} {B i o : Nat} {v0 v1 v2 v3 v4 v5 v6 v7 v8 v9 v10 v11 : Value} (h : i ≠ B) : ((((((((((((w.setCell ⟨B, 0, none⟩ v0).setCell ⟨B, 1, none⟩ v1).setCell ⟨B, 2, none⟩ v2).setCell ⟨B, 3, none⟩ v3).setCell ⟨B, 4, none⟩ v4).setCell ⟨B, 5, none⟩ v5).setCell ⟨B, 6, none⟩ v6).setCell ⟨B, 7, none⟩ v7).setCell ⟨B, 8, none⟩ v8).setCell ⟨B, 9, none⟩ v9).setCell ⟨B, 10, none⟩ v10).setCell ⟨B, 11, none⟩ v11).cell? ⟨i, o, none⟩ = w.cell? ⟨i, o, none⟩ := by
  simp only [setc h]

theorem setSame {w : World} {B j t : Nat} {z : Array Value} {v : Value} (h : w.heap[B]? = some (.cells z t)) : (w.setCell ⟨B, j, none⟩ v).heap[B]? = some (.cells (z.setIfInBounds j v) t) := by
  simp [World.setCell, Array.getElem?_modify, h]

theorem stored12 {w : World} {B t : Nat} {v0 v1 v2 v3 v4 v5 v6 v7 v8 v9 v10 v11 y0 y1 y2 y3 y4 y5 y6 y7 y8 y9 y10 y11 : Value} (h : w.heap[B]? = some (.cells #[y0, y1, y2, y3, y4, y5, y6, y7, y8, y9, y10, y11] t)) :
    ((((((((((((w.setCell ⟨B, 0, none⟩ v0).setCell ⟨B, 1, none⟩ v1).setCell ⟨B, 2, none⟩ v2).setCell ⟨B, 3, none⟩ v3).setCell ⟨B, 4, none⟩ v4).setCell ⟨B, 5, none⟩ v5).setCell ⟨B, 6, none⟩ v6).setCell ⟨B, 7, none⟩ v7).setCell ⟨B, 8, none⟩ v8).setCell ⟨B, 9, none⟩ v9).setCell ⟨B, 10, none⟩ v10).setCell ⟨B, 11, none⟩ v11).heap[B]? = some (.cells #[v0, v1, v2, v3, v4, v5, v6, v7, v8, v9, v10, v11] t) := by
  have e0 : (w.setCell ⟨B, 0, none⟩ v0).heap[B]? = some (.cells #[v0, y1, y2, y3, y4, y5, y6, y7, y8, y9, y10, y11] t) := (setSame h).trans (by simp only [List.setIfInBounds_toArray, List.set_cons_zero])
  have e1 : ((w.setCell ⟨B, 0, none⟩ v0).setCell ⟨B, 1, none⟩ v1).heap[B]? = some (.cells #[v0, v1, y2, y3, y4, y5, y6, y7, y8, y9, y10, y11] t) := (setSame e0).trans (by simp only [List.setIfInBounds_toArray, List.set_cons_zero, List.set_cons_succ])
  have e2 : (((w.setCell ⟨B, 0, none⟩ v0).setCell ⟨B, 1, none⟩ v1).setCell ⟨B, 2, none⟩ v2).heap[B]? = some (.cells #[v0, v1, v2, y3, y4, y5, y6, y7, y8, y9, y10, y11] t) := (setSame e1).trans (by simp only [List.setIfInBounds_toArray, List.set_cons_zero, List.set_cons_succ])
  have e3 : ((((w.setCell ⟨B, 0, none⟩ v0).setCell ⟨B, 1, none⟩ v1).setCell ⟨B, 2, none⟩ v2).setCell ⟨B, 3, none⟩ v3).heap[B]? = some (.cells #[v0, v1, v2, v3, y4, y5, y6, y7, y8, y9, y10, y11] t) := (setSame e2).trans (by simp only [List.setIfInBounds_toArray, List.set_cons_zero, List.set_cons_succ])
  have e4 : (((((w.setCell ⟨B, 0, none⟩ v0).setCell ⟨B, 1, none⟩ v1).setCell ⟨B, 2, none⟩ v2).setCell ⟨B, 3, none⟩ v3).setCell ⟨B, 4, none⟩ v4).heap[B]? = some (.cells #[v0, v1, v2, v3, v4, y5, y6, y7, y8, y9, y10, y11] t) := (setSame e3).trans (by simp only [List.setIfInBounds_toArray, List.set_cons_zero, List.set_cons_succ])
  have e5 : ((((((w.setCell ⟨B, 0, none⟩ v0).setCell ⟨B, 1, none⟩ v1).setCell ⟨B, 2, none⟩ v2).setCell ⟨B, 3, none⟩ v3).setCell ⟨B, 4, none⟩ v4).setCell ⟨B, 5, none⟩ v5).heap[B]? = some (.cells #[v0, v1, v2, v3, v4, v5, y6, y7, y8, y9, y10, y11] t) := (setSame e4).trans (by simp only [List.setIfInBounds_toArray, List.set_cons_zero, List.set_cons_succ])
  have e6 : (((((((w.setCell ⟨B, 0, none⟩ v0).setCell ⟨B, 1, none⟩ v1).setCell ⟨B, 2, none⟩ v2).setCell ⟨B, 3, none⟩ v3).setCell ⟨B, 4, none⟩ v4).setCell ⟨B, 5, none⟩ v5).setCell ⟨B, 6, none⟩ v6).heap[B]? = some (.cells #[v0, v1, v2, v3, v4, v5, v6, y7, y8, y9, y10, y11] t) := (setSame e5).trans (by simp only [List.setIfInBounds_toArray, List.set_cons_zero, List.set_cons_succ])
  have e7 : ((((((((w.setCell ⟨B, 0, none⟩ v0).setCell ⟨B, 1, none⟩ v1).setCell ⟨B, 2, none⟩ v2).setCell ⟨B, 3, none⟩ v3).setCell ⟨B, 4, none⟩ v4).setCell ⟨B, 5, none⟩ v5).setCell ⟨B, 6, none⟩ v6).setCell ⟨B, 7, none⟩ v7).heap[B]? = some (.cells #[v0, v1, v2, v3, v4, v5, v6, v7, y8, y9, y10, y11] t) := (setSame e6).trans (by simp only [List.setIfInBounds_toArray, List.set_cons_zero, List.set_cons_succ])
  have e8 : (((((((((w.setCell ⟨B, 0, none⟩ v0).setCell ⟨B, 1, none⟩ v1).setCell ⟨B, 2, none⟩ v2).setCell ⟨B, 3, none⟩ v3).setCell ⟨B, 4, none⟩ v4).setCell ⟨B, 5, none⟩ v5).setCell ⟨B, 6, none⟩ v6).setCell ⟨B, 7, none⟩ v7).setCell ⟨B, 8, none⟩ v8).heap[B]? = some (.cells #[v0, v1, v2, v3, v4, v5, v6, v7, v8, y9, y10, y11] t) := (setSame e7).trans (by simp only [List.setIfInBounds_toArray, List.set_cons_zero, List.set_cons_succ])
  have e9 : ((((((((((w.setCell ⟨B, 0, none⟩ v0).setCell ⟨B, 1, none⟩ v1).setCell ⟨B, 2, none⟩ v2).setCell ⟨B, 3, none⟩ v3).setCell ⟨B, 4, none⟩ v4).setCell ⟨B, 5, none⟩ v5).setCell ⟨B, 6, none⟩ v6).setCell ⟨B, 7, none⟩ v7).setCell ⟨B, 8, none⟩ v8).setCell ⟨B, 9, none⟩ v9).heap[B]? = some (.cells #[v0, v1, v2, v3, v4, v5, v6, v7, v8, v9, y10, y11] t) := (setSame e8).trans (by simp only [List.setIfInBounds_toArray, List.set_cons_zero, List.set_cons_succ])
  have e10 : (((((((((((w.setCell ⟨B, 0, none⟩ v0).setCell ⟨B, 1, none⟩ v1).setCell ⟨B, 2, none⟩ v2).setCell ⟨B, 3, none⟩ v3).setCell ⟨B, 4, none⟩ v4).setCell ⟨B, 5, none⟩ v5).setCell ⟨B, 6, none⟩ v6).setCell ⟨B, 7, none⟩ v7).setCell ⟨B, 8, none⟩ v8).setCell ⟨B, 9, none⟩ v9).setCell ⟨B, 10, none⟩ v10).heap[B]? = some (.cells #[v0, v1, v2, v3, v4, v5, v6, v7, v8, v9, v10, y11] t) := (setSame e9).trans (by simp only [List.setIfInBounds_toArray, List.set_cons_zero, List.set_cons_succ])
  have e11 : ((((((((((((w.setCell ⟨B, 0, none⟩ v0).setCell ⟨B, 1, none⟩ v1).setCell ⟨B, 2, none⟩ v2).setCell ⟨B, 3, none⟩ v3).setCell ⟨B, 4, none⟩ v4).setCell ⟨B, 5, none⟩ v5).setCell ⟨B, 6, none⟩ v6).setCell ⟨B, 7, none⟩ v7).setCell ⟨B, 8, none⟩ v8).setCell ⟨B, 9, none⟩ v9).setCell ⟨B, 10, none⟩ v10).setCell ⟨B, 11, none⟩ v11).heap[B]? = some (.cells #[v0, v1, v2, v3, v4, v5, v6, v7, v8, v9, v10, v11] t) := (setSame e10).trans (by simp only [List.setIfInBounds_toArray, List.set_cons_zero, List.set_cons_succ])
  exact e11

theorem below12 {w0 w : World} {N B : Nat} {v0 v1 v2 v3 v4 v5 v6 v7 v8 v9 v10 v11 : Value} (h : Below N w0 w) (hB : N ≤ B) : Below N w0 ((((((((((((w.setCell ⟨B, 0, none⟩ v0).setCell ⟨B, 1, none⟩ v1).setCell ⟨B, 2, none⟩ v2).setCell ⟨B, 3, none⟩ v3).setCell ⟨B, 4, none⟩ v4).setCell ⟨B, 5, none⟩ v5).setCell ⟨B, 6, none⟩ v6).setCell ⟨B, 7, none⟩ v7).setCell ⟨B, 8, none⟩ v8).setCell ⟨B, 9, none⟩ v9).setCell ⟨B, 10, none⟩ v10).setCell ⟨B, 11, none⟩ v11) :=
  ((((((((((((h.setCell hB _).setCell hB _).setCell hB _).setCell hB _).setCell hB _).setCell hB _).setCell hB _).setCell hB _).setCell hB _).setCell hB _).setCell hB _).setCell hB _)

theorem zkeep {w w' : World} {p t : Nat} {z : Array Value} (h : w.heap[p]? = some (.cells z t)) (hb : Below w.heap.size w w') : w'.heap[p]? = some (.cells z t) :=
  (hb.block p (Array.getElem?_eq_some_iff.1 h).1).trans h

end Go.Proofs.Qxb6615037a
