/-
  store, IndexFunc, numbered, Written, latest, Latest, NextWrite, Work, ZZnumRaces.
-/
import Derived.Test.Qxb6615079aMStore
namespace Go.Proofs.Qxb6615079a
open Go.RowKit

section
variable {w w' : World} {B v : Nat} {vs ps : List Value} {sq xs : List Int} {next : Int} {hv : Value} {work : Int}

theorem St.lt (h : St w B v vs ps sq xs next hv work) : B + 6 < w.heap.size := by
  obtain ⟨E, h1, _⟩ := h.st
  exact (Array.getElem?_eq_some_iff.1 h1).1

theorem St.on (h : St w B v vs ps sq xs next hv work) (hb : Below w.heap.size w w') : St w' B v vs ps sq xs next hv work := by
  have hl := h.lt
  obtain ⟨C, h1, h2⟩ := h.wr
  obtain ⟨E, h3, h4⟩ := h.st
  exact ⟨h.mod.on hb (Nat.le_refl _), (hb.block _ (by omega)).trans h.clk, ⟨C, (hb.block _ (by omega)).trans h1, h2⟩, ⟨E, (hb.block _ (by omega)).trans h3, h4⟩⟩

theorem St.stores (h : St w B v vs ps sq xs next hv work) : w.cell? ⟨B + 6, v * 2, none⟩ = some (.slice (some ⟨B + 5, 0, none⟩) sq.length sq.length) ∧ w.cell? ⟨B + 6, v * 2 + 1, none⟩ = some (.int .i64 next) := by
  obtain ⟨E, h3, h4, h5⟩ := h.st
  exact ⟨(zcell h3 _).trans h4, (zcell h3 _).trans h5⟩

theorem St.write (h : St w B v vs ps sq xs next hv work) {i : Nat} {s x : Int} {pv : Value} (hs : sq[i]? = some s) (hx : xs[i]? = some x) (hp : ps[i]? = some pv) :
    w.cell? ⟨B + 5, i * 5, none⟩ = some (.int .i64 s) ∧ w.cell? ⟨B + 5, i * 5 + 1, none⟩ = some (.int .i64 (-1)) ∧ w.cell? ⟨B + 5, i * 5 + 2, none⟩ = some (.slice none 0 0) ∧ w.cell? ⟨B + 5, i * 5 + 3, none⟩ = some (.iface 3 (.int .i64 x)) ∧ w.cell? ⟨B + 5, i * 5 + 4, none⟩ = some pv := by
  obtain ⟨C, h1, h2⟩ := h.wr
  have k := fun q hq => (zcell h1 (i * 5 + q)).trans (show C.toArray[i * 5 + q]? = _ from (by simpa using h2 i (List.getElem?_eq_some_iff.1 hs).1 s x pv hs hx hp q hq))
  exact ⟨k 0 (by omega), k 1 (by omega), k 2 (by omega), k 3 (by omega), k 4 (by omega)⟩
end

set_option maxHeartbeats 1000000 in
theorem store_any {B v : Nat} {vs ps : List Value} {sq xs : List Int} {next : Int} {hv : Value} {work : Int} (w : World) (h : St w B v vs ps sq xs next hv work) (_hvv : v ≤ 65536) :
    Calls Try.prog 56 #[.pointer (some ⟨B + 3, 0, none⟩), .int .i64 v] w fun e w' => e = .returned (.pointer (some ⟨B + 6, v * 2, none⟩)) ∧ w' = w := by
  have c3 := h.mod.cells.2.2.2.1
  clear h
  go_enter Try.func56, Try.ntmps56
  go_wp2
  refine wp_loop_rounds 1 ?_
  rw [rounds_succ]
  go_wp2
  go_ret
  exact ⟨rfl, rfl⟩

/-- the closure: is it the write numbered seq? -/
theorem isIt_any (s seq x : Int) (pv : Value) (bx : Nat) (w : World) (hb : w.cell? ⟨bx, 0, none⟩ = some (.int .i64 seq)) (hl : bx < w.heap.size) :
    Calls Try.prog 61 #[.agg #[.int .i64 s, .int .i64 (-1), .slice none 0 0, .iface 3 (.int .i64 x), pv], .pointer (some ⟨bx, 0, none⟩)] w fun e w' => e = .returned (.bool (s == seq)) ∧ Below w.heap.size w w' := by
  go_enter Try.func61, Try.ntmps61
  go_wp2
  go_ret
  exact ⟨rfl, (Below.refl _ _).alloc (Nat.le_refl _) _⟩

/-- sq[idx] is seq, and no other is -/
def Only (sq : List Int) (seq : Int) (idx : Nat) : Prop := sq[idx]? = some seq ∧ ∀ i : Nat, sq[i]? = some seq → i = idx

set_option maxHeartbeats 1000000 in
set_option maxRecDepth 100000 in
theorem index_any {B v : Nat} {vs ps : List Value} {sq xs : List Int} {next : Int} {hv : Value} {work : Int} (w : World) (h : St w B v vs ps sq xs next hv work) (h1 : xs.length = sq.length) (h2 : ps.length = sq.length) (hn : sq.length ≤ 1048576)
    (seq : Int) (idx bx : Nat) (ho : Only sq seq idx) (hb : w.cell? ⟨bx, 0, none⟩ = some (.int .i64 seq)) (hl : bx < w.heap.size) :
    Calls Try.prog 60 #[.slice (some ⟨B + 5, 0, none⟩) sq.length sq.length, .func (.func 61) #[] #[.pointer (some ⟨bx, 0, none⟩)]] w fun e w' => e = .returned (.int .i64 idx) ∧ Below w.heap.size w w' := by
  have hidx := (List.getElem?_eq_some_iff.1 ho.1).1
  have HS := hide h
  have HO := hide ho
  have H1 := hide h1
  have H2 := hide h2
  clear h ho h1 h2
  generalize hnn : sq.length = n at *
  have HN := hide hnn
  clear hnn
  go_enter Try.func60, Try.ntmps60
  go_wp2
  go_loopw [8] (fun t wr => ∃ j : Nat, j ≤ idx ∧ t = .int .i64 j ∧ Below w.heap.size w wr) (fun t _ => n - (intOf t).toNat)
  case atStart => exact ⟨0, Nat.zero_le _, rfl, Below.refl _ _⟩
  case round =>
    obtain ⟨j, hj, rfl, hbel⟩ := hrel
    obtain ⟨s, hs⟩ : ∃ s, sq[j]? = some s := ⟨_, List.getElem?_eq_getElem (by rw [unhide HN]; omega)⟩
    obtain ⟨x, hx⟩ : ∃ x, xs[j]? = some x := ⟨_, List.getElem?_eq_getElem (by rw [unhide H1]; omega)⟩
    obtain ⟨pv, hp⟩ : ∃ pv, ps[j]? = some pv := ⟨_, List.getElem?_eq_getElem (by rw [unhide H2]; omega)⟩
    obtain ⟨c0, c1, c2, c3, c4⟩ := ((unhide HS).on hbel).write hs hx hp
    have hbx : wr.cell? ⟨bx, 0, none⟩ = some (.int .i64 seq) := (hbel.cell (p := ⟨bx, 0, none⟩) hl).trans hb
    have hlx : bx < wr.heap.size := Nat.lt_of_lt_of_le hl hbel.size
    have hjn : j < n := by omega
    have HSJ := hide hs
    have HBEL := hide hbel
    clear hs hx hp hbel
    go_wp2_with fail
    refine (isIt_any s seq x pv bx _ hbx hlx).mono ?_
    rintro e w1 ⟨rfl, hb1⟩
    have HB1 := hide hb1
    clear hb1 c0 c1 c2 c3 c4
    have hbb : Below w.heap.size w w1 := (unhide HBEL).trans ((unhide HB1).mono (unhide HBEL).size)
    have HBB := hide hbb
    clear hbb
    by_cases hss : s = seq
    · have hji : j = idx := (unhide HO).2 j (by rw [unhide HSJ, hss])
      subst hji
      have hq : (s == seq) = true := by simp [hss]
      rw [hq]
      clear hq hss
      go_wp2
      go_ret
      exact ⟨rfl, unhide HBB⟩
    · have hq : (s == seq) = false := by simp [hss]
      rw [hq]
      have hji : j ≠ idx := by
        intro e
        subst e
        have := (unhide HO).1
        rw [unhide HSJ] at this
        exact hss (Option.some.inj this)
      clear hq hss
      go_wp2
      go_roundw
      case rel => exact ⟨j + 1, by omega, by go_num, unhide HBB⟩
      case measure => simp [intOf]; omega

set_option maxHeartbeats 1000000 in
set_option maxRecDepth 100000 in
theorem numbered_any {B v : Nat} {vs ps : List Value} {sq xs : List Int} {next : Int} {hv : Value} {work : Int} (w : World) (h : St w B v vs ps sq xs next hv work) (h1 : xs.length = sq.length) (h2 : ps.length = sq.length) (hn : sq.length ≤ 1048576)
    (seq : Int) (idx : Nat) (ho : Only sq seq idx) :
    Calls Try.prog 57 #[.pointer (some ⟨B + 6, v * 2, none⟩), .int .i64 seq] w fun e w' => e = .returned (.pointer (some ⟨B + 5, idx * 5, none⟩)) ∧ Below w.heap.size w w' := by
  have hidx := (List.getElem?_eq_some_iff.1 ho.1).1
  have hal : Below w.heap.size w (w.alloc (.cells #[.int .i64 seq] 3)) := (Below.refl _ _).alloc (Nat.le_refl _) _
  have HI := hide (index_any ((w.alloc (.cells #[.int .i64 seq] 3)).drew) ((h.on hal).on (Below.refl _ _).drew) h1 h2 hn seq idx w.heap.size ho (by go_simp) (by simp))
  have hst := h.lt
  have c0 := (h.on hal).stores.1
  have HAL := hide hal
  have hsz : (w.alloc (.cells #[.int .i64 seq] 3)).heap.size = w.heap.size + 1 := by simp
  have HSZ := hide hsz
  clear hal h h1 h2 ho hsz
  generalize hnn : sq.length = n at *
  clear hnn
  go_enter Try.func57, Try.ntmps57
  go_wp2
  generalize (w.alloc (.cells #[.int .i64 seq] 3)) = W0 at *
  have S0 : W0.drew.cell? ⟨B + 6, v * 2, none⟩ = some (.slice (some ⟨B + 5, 0, none⟩) n n) := c0
  go_region_held3 (fun w' => w'.cell? ⟨B + 6, v * 2, none⟩ = some (.slice (some ⟨B + 5, 0, none⟩) n n)) (first | with_reducible exact S1 | with_reducible exact S0)
    (first
      | (go_at_call 60; refine (unhide HI).mono ?_; rintro e w1 ⟨rfl, hb1⟩; have hb1w : Below W0.heap.size W0 w1 := (Below.refl _ W0).drew.trans hb1; clear hb1; have S1 : w1.cell? ⟨B + 6, v * 2, none⟩ = some (.slice (some ⟨B + 5, 0, none⟩) n n) := (hb1w.cell (p := ⟨B + 6, v * 2, none⟩) (by have := unhide HSZ; show B + 6 < _; omega)).trans c0))
  go_wp2
  go_ret
  exact ⟨rfl, (unhide HAL).trans (hb1w.mono (by have := unhide HSZ; omega))⟩
end Go.Proofs.Qxb6615079a
