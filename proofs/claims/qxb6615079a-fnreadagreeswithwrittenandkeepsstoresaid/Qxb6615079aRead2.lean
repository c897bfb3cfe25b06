/-
  Written, Latest, NextWrite, Work, ZZnumRaces.
-/
import Derived.Test.Qxb6615079aRead
namespace Go.Proofs.Qxb6615079a
open Go.RowKit

variable {B v : Nat} {vs ps : List Value} {sq xs : List Int} {next : Int} {hv : Value} {work : Int}

theorem assert3 (x : Int) (w : World) : (Instr.typeAssert (.iface 3 (.int .i64 x)) 20 3 true).run Try.prog w = .ok (.tuple #[.int .i64 x, .bool true]) w := by
  simp [Instr.typeAssert, run_underlying Try.underlying3]

/-- the lengths fit -/
structure Lens (sq xs : List Int) (ps : List Value) (v : Nat) : Prop where
  h1 : xs.length = sq.length
  h2 : ps.length = sq.length
  hn : sq.length ≤ 1048576
  hv : v ≤ 65536

set_option maxHeartbeats 1000000 in
set_option maxRecDepth 100000 in
theorem written_any (w : World) (h : St w B v vs ps sq xs next hv work) (hl : Lens sq xs ps v) (seq x : Int) (idx : Nat) (ho : Only sq seq idx) (hx : xs[idx]? = some x) :
    Calls Try.prog 54 #[.pointer (some ⟨B + 3, 0, none⟩), .int .i64 v, .int .i64 seq] w fun e w' => e = .returned (.iface 3 (.int .i64 x)) ∧ Below w.heap.size w w' := by
  obtain ⟨pv, hp⟩ : ∃ pv, ps[idx]? = some pv := ⟨_, List.getElem?_eq_getElem (by rw [hl.h2]; exact (List.getElem?_eq_some_iff.1 ho.1).1)⟩
  have HST := hide (store_any w h hl.hv)
  have HNB := hide (numbered_any w h hl.h1 hl.h2 hl.hn seq idx ho)
  have HC := hide (fun W hW => ((h.on (w' := W) hW).write ho.1 hx hp).2.2.2.1)
  clear h ho hx hp
  go_enter Try.func54, Try.ntmps54
  go_wp2_with fail
  refine (unhide HST).mono ?_
  rintro e w1 ⟨rfl, rfl⟩
  go_wp2_with fail
  refine (unhide HNB).mono ?_
  rintro e w2 ⟨rfl, hb⟩
  have c3 := unhide HC _ hb
  have HB := hide hb
  clear hb
  go_wp2
  go_ret
  exact ⟨rfl, unhide HB⟩

set_option maxHeartbeats 1000000 in
set_option maxRecDepth 100000 in
theorem zzwritten_any (w : World) (h : St w B v vs ps sq xs next hv work) (hl : Lens sq xs ps v) (seq x : Int) (idx : Nat) (ho : Only sq seq idx) (hx : xs[idx]? = some x) :
    Calls Try.prog 42 #[.pointer (some ⟨B + 3, 0, none⟩), .int .i64 v, .int .i64 seq] w fun e w' => e = .returned (.int .i64 x) ∧ Below w.heap.size w w' := by
  have HW := hide (written_any w h hl seq x idx ho hx)
  clear h ho hx
  have hta := assert3 x
  go_enter Try.func42, Try.ntmps42
  go_wp2_with fail
  refine (unhide HW).mono ?_
  rintro e w1 ⟨rfl, hb⟩
  have HB := hide hb
  clear hb
  go_wp2
  go_ret
  exact ⟨rfl, unhide HB⟩

set_option maxHeartbeats 1000000 in
set_option maxRecDepth 100000 in
theorem latest_any (w : World) (h : St w B v vs ps sq xs next hv work) (hl : Lens sq xs ps v) (h0 : 0 < sq.length) :
    Calls Try.prog 59 #[.pointer (some ⟨B + 6, v * 2, none⟩)] w fun e w' => e = .returned (.pointer (some ⟨B + 5, (sq.length - 1) * 5, none⟩)) ∧ ∃ q, w' = w.drewN q := by
  have c0 := h.stores.1
  have hn := hl.hn
  clear h hl
  obtain ⟨k, hk⟩ : ∃ k, sq.length = k + 1 := ⟨sq.length - 1, by omega⟩
  rw [hk] at c0 hn ⊢
  clear hk h0
  rw [show k + 1 - 1 = k by omega]
  go_enter Try.func59, Try.ntmps59
  go_wp2
  go_quiet (fail)
  go_wp2
  go_ret
  exact ⟨rfl, _, rfl⟩

set_option maxHeartbeats 1000000 in
set_option maxRecDepth 100000 in
theorem lat_any (w : World) (h : St w B v vs ps sq xs next hv work) (hl : Lens sq xs ps v) (h0 : 0 < sq.length) (x : Int) (hx : xs[sq.length - 1]? = some x) :
    Calls Try.prog 55 #[.pointer (some ⟨B + 3, 0, none⟩), .int .i64 v] w fun e w' => e = .returned (.iface 3 (.int .i64 x)) ∧ Below w.heap.size w w' := by
  obtain ⟨pv, hp⟩ : ∃ pv, ps[sq.length - 1]? = some pv := ⟨_, List.getElem?_eq_getElem (by rw [hl.h2]; omega)⟩
  obtain ⟨s, hs⟩ : ∃ s, sq[sq.length - 1]? = some s := ⟨_, List.getElem?_eq_getElem (by omega)⟩
  have HST := hide (store_any w h hl.hv)
  have HLT := hide (latest_any w h hl h0)
  have HC := hide (fun W hW => ((h.on (w' := W) hW).write hs hx hp).2.2.2.1)
  clear h hs hx hp hl h0
  go_enter Try.func55, Try.ntmps55
  go_wp2_with fail
  refine (unhide HST).mono ?_
  rintro e w1 ⟨rfl, rfl⟩
  go_wp2_with fail
  refine (unhide HLT).mono ?_
  rintro e w2 ⟨rfl, q, rfl⟩
  have hb : Below w1.heap.size w1 (w1.drewN q) := ⟨rfl, rfl, rfl, Nat.le_refl _, fun _ _ => rfl⟩
  have c3 := unhide HC _ hb
  have HB := hide hb
  clear hb
  go_wp2
  go_ret
  exact ⟨rfl, unhide HB⟩

set_option maxHeartbeats 1000000 in
set_option maxRecDepth 100000 in
theorem zzlatest_any (w : World) (h : St w B v vs ps sq xs next hv work) (hl : Lens sq xs ps v) (h0 : 0 < sq.length) (x : Int) (hx : xs[sq.length - 1]? = some x) :
    Calls Try.prog 43 #[.pointer (some ⟨B + 3, 0, none⟩), .int .i64 v] w fun e w' => e = .returned (.int .i64 x) ∧ Below w.heap.size w w' := by
  have HW := hide (lat_any w h hl h0 x hx)
  clear h hx hl h0
  have hta := assert3 x
  go_enter Try.func43, Try.ntmps43
  go_wp2_with fail
  refine (unhide HW).mono ?_
  rintro e w1 ⟨rfl, hb⟩
  have HB := hide hb
  clear hb
  go_wp2
  go_ret
  exact ⟨rfl, unhide HB⟩

set_option maxHeartbeats 1000000 in
set_option maxRecDepth 100000 in
theorem next_any (w : World) (h : St w B v vs ps sq xs next hv work) (hl : Lens sq xs ps v) :
    Calls Try.prog 44 #[.pointer (some ⟨B + 3, 0, none⟩), .int .i64 v] w fun e w' => e = .returned (.int .i64 next) ∧ w' = w := by
  have HST := hide (store_any w h hl.hv)
  have c1 := h.stores.2
  clear h
  go_enter Try.func44, Try.ntmps44
  go_wp2_with fail
  refine (unhide HST).mono ?_
  rintro e w1 ⟨rfl, rfl⟩
  go_wp2
  go_ret
  exact ⟨rfl, rfl⟩

theorem work_any (w : World) (h : St w B v vs ps sq xs next hv work) :
    Calls Try.prog 39 #[.pointer (some ⟨B + 3, 0, none⟩)] w fun e w' => e = .returned (.int .i64 work) ∧ w' = w := by
  have c := h.mod.cells.2.2.2.2.1
  clear h
  go_enter Try.func39, Try.ntmps39
  go_wp2
  go_ret
  exact ⟨rfl, rfl⟩

theorem races_any (w : World) (h : St w B v vs ps sq xs next hv work) :
    Calls Try.prog 40 #[.pointer (some ⟨B + 3, 0, none⟩)] w fun e w' => e = .returned (.int .i64 0) ∧ w' = w := by
  have c := h.mod.cells.1
  have c' := h.mod.cells.2.2.2.2.2
  clear h
  go_enter Try.func40, Try.ntmps40
  go_wp2
  go_ret
  exact ⟨rfl, rfl⟩
end Go.Proofs.Qxb6615079a
