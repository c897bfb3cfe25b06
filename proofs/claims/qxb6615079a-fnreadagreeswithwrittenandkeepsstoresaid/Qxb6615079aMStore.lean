/-
  ZZnewModelStore.
-/
import Derived.Test.Qxb6615079aNew
import Derived.RegionTactic
import Derived.Deep.RegionHeld3
namespace Go.Proofs.Qxb6615079a
open Go.RowKit

theorem make77 (k : Nat) (hk : k ≤ 1048576) (W : World) : Sem.run Try.prog (Instr.makeSlice 77 (.int .i64 (k : Int)) (.int .i64 (k : Int))) W =
    .ok (.slice (some ⟨W.heap.size, 0, none⟩) k k) (W.alloc (.cells (madeCells #[.int .i64 0, .int .i64 0, .slice none 0 0, .nilIface, .slice none 0 0] (k * 5)) 91)) := by
  obtain ⟨i0, hi, hz0, hz1, hz2⟩ := info_parts (show (Try.prog.info? 91).map (fun i => (i.zero, i.size, i.bytes)) = some (some (.agg #[.int .i64 0, .int .i64 0, .slice none 0 0, .nilIface, .slice none 0 0]), 5, 80) by kernel_rfl)
  have h := run_make W 77 91 i0 (.agg #[.int .i64 0, .int .i64 0, .slice none 0 0, .nilIface, .slice none 0 0]) Try.underlying77 hi hz0 .i64 .i64 k k (by omega) (by omega) (by rw [hz2]; omega) (by omega)
  rw [h, hz1]
  simp [Value.cells]

theorem make70 (k : Nat) (hk : k ≤ 1048576) (W : World) : Sem.run Try.prog (Instr.makeSlice 70 (.int .i64 (k : Int)) (.int .i64 (k : Int))) W =
    .ok (.slice (some ⟨W.heap.size, 0, none⟩) k k) (W.alloc (.cells (madeCells #[.slice none 0 0, .int .i64 0] (k * 2)) 93)) := by
  obtain ⟨i0, hi, hz0, hz1, hz2⟩ := info_parts (show (Try.prog.info? 93).map (fun i => (i.zero, i.size, i.bytes)) = some (some (.agg #[.slice none 0 0, .int .i64 0]), 2, 32) by kernel_rfl)
  have h := run_make W 70 93 i0 (.agg #[.slice none 0 0, .int .i64 0]) Try.underlying70 hi hz0 .i64 .i64 k k (by omega) (by omega) (by rw [hz2]; omega) (by omega)
  rw [h, hz1]
  simp [Value.cells]

/-- a write's five cells -/
def wL (s x : Int) (pv : Value) : List Value := [.int .i64 s, .int .i64 (-1), .slice none 0 0, .iface 3 (.int .i64 x), pv]

/-- the first j writes lie in C -/
def Laid (C : List Value) (sq xs : List Int) (ps : List Value) (j : Nat) : Prop :=
  ∀ i, i < j → ∀ s x pv, sq[i]? = some s → xs[i]? = some x → ps[i]? = some pv → ∀ q, q < 5 → C[i * 5 + q]? = (wL s x pv)[q]?

theorem Laid.zero (C : List Value) (sq xs : List Int) (ps : List Value) : Laid C sq xs ps 0 := fun _ h => absurd h (Nat.not_lt_zero _)

def put5 (C : List Value) (i : Nat) (a b c d e : Value) : List Value := ((((C.set (i * 5) a).set (i * 5 + 1) b).set (i * 5 + 2) c).set (i * 5 + 3) d).set (i * 5 + 4) e

theorem Laid.succ {C : List Value} {sq xs : List Int} {ps : List Value} {j : Nat} (h : Laid C sq xs ps j) {s x : Int} {pv : Value} (hs : sq[j]? = some s) (hx : xs[j]? = some x) (hp : ps[j]? = some pv) (hl : j * 5 + 5 ≤ C.length) :
    Laid (put5 C j (.int .i64 s) (.int .i64 (-1)) (.slice none 0 0) (.iface 3 (.int .i64 x)) pv) sq xs ps (j + 1) := by
  intro i hi s' x' pv' hs' hx' hp' q hq
  unfold put5
  by_cases e : i = j
  · subst e
    rw [hs] at hs'; rw [hx] at hx'; rw [hp] at hp'
    cases hs'; cases hx'; cases hp'
    rcases (show q = 0 ∨ q = 1 ∨ q = 2 ∨ q = 3 ∨ q = 4 by omega) with rfl | rfl | rfl | rfl | rfl <;> simp [List.getElem?_set, wL] <;> omega
  · have := h i (by omega) s' x' pv' hs' hx' hp' q hq
    rw [List.getElem?_set_ne (by omega), List.getElem?_set_ne (by omega), List.getElem?_set_ne (by omega), List.getElem?_set_ne (by omega), List.getElem?_set_ne (by omega)]
    exact this

/-- the values of a slice of ints -/
def IRow (w : World) (base : Nat) (v : Value) (xs : List Int) : Prop := w.ownsRow base 3 1 v xs.length (xs.map (Value.int .i64))
theorem IRow.on {w w' : World} {base B : Nat} {v : Value} {xs : List Int} (h : IRow w base v xs) (hb : Below B w w') (hB : w.heap.size ≤ B) : IRow w' base v xs := own_below h hb hB

theorem IRow.at {w : World} {base : Nat} {v : Value} {xs : List Int} (h : IRow w base v xs) {i : Nat} {x : Int} (hi : xs[i]? = some x) : ∃ g cap, v = .slice (some ⟨g, 0, none⟩) xs.length cap ∧ g < w.heap.size ∧ base ≤ g ∧ w.cell? ⟨g, i, none⟩ = some (.int .i64 x) := by
  have hlt := (List.getElem?_eq_some_iff.1 hi).1
  rcases id h.2 with ⟨_, h0⟩ | ⟨g, cap, cur, rfl, hb, _⟩
  · omega
  · obtain ⟨h1, _, h3⟩ := own_cell h (i := i) (u := .int .i64 x) (by simp [hi])
    exact ⟨g, cap, rfl, h3, hb, h1⟩

theorem Grid.at {w : World} {base : Nat} {v : Value} {vs : List Value} (h : Grid w base v vs) {i : Nat} {u : Value} (hi : vs[i]? = some u) : ∃ g cap, v = .slice (some ⟨g, 0, none⟩) vs.length cap ∧ g < w.heap.size ∧ base ≤ g ∧ w.cell? ⟨g, i, none⟩ = some u := by
  have hlt := (List.getElem?_eq_some_iff.1 hi).1
  rcases id h.row.2 with ⟨_, h0⟩ | ⟨g, cap, cur, rfl, hb, _⟩
  · omega
  · obtain ⟨h1, _, h3⟩ := own_cell h.row hi
    exact ⟨g, cap, rfl, h3, hb, h1⟩

theorem Grid.on {w w' : World} {base B : Nat} {v : Value} {vs : List Value} (h : Grid w base v vs) (hb : Below B w w') (hB : w.heap.size ≤ B) : Grid w' base v vs := ⟨own_below h.row hb hB, fun i hi u hu => (h.each i hi u hu).on hb hB⟩

theorem setc {w : World} {B j i o : Nat} {v : Value} (h : i ≠ B) : (w.setCell ⟨B, j, none⟩ v).cell? ⟨i, o, none⟩ = w.cell? ⟨i, o, none⟩ :=
  World.cell?_of_block (w := w) (Below.heap_setCell w ⟨B, j, none⟩ v i h)
theorem drew_cell (w : World) (a : Addr) : w.drew.cell? a = w.cell? a := rfl

/-- five stores, behind a draw -/
def st5 (w : World) (B o : Nat) (a b c d e : Value) : World := (((((w.setCell ⟨B, o, none⟩ a).setCell ⟨B, o + 1, none⟩ b).setCell ⟨B, o + 2, none⟩ c).setCell ⟨B, o + 3, none⟩ d).setCell ⟨B, o + 4, none⟩ e)

theorem keep5 {w : World} {B o i q : Nat} {a b c d e : Value} (h : i ≠ B) : (((((w.setCell ⟨B, o, none⟩ a).setCell ⟨B, o + 1, none⟩ b).setCell ⟨B, o + 2, none⟩ c).setCell ⟨B, o + 3, none⟩ d).setCell ⟨B, o + 4, none⟩ e).drew.cell? ⟨i, q, none⟩ = w.cell? ⟨i, q, none⟩ := by
  rw [drew_cell]
  simp only [setc h]

theorem blk5 {w : World} {B i t : Nat} {C : List Value} {a b c d e : Value} (h : w.heap[B]? = some (.cells C.toArray t)) : (st5 w B (i * 5) a b c d e).heap[B]? = some (.cells (put5 C i a b c d e).toArray t) := by
  have e1 := setSame (j := i * 5) (v := a) h
  rw [List.setIfInBounds_toArray] at e1
  have e2 := setSame (j := i * 5 + 1) (v := b) e1
  rw [List.setIfInBounds_toArray] at e2
  have e3 := setSame (j := i * 5 + 2) (v := c) e2
  rw [List.setIfInBounds_toArray] at e3
  have e4 := setSame (j := i * 5 + 3) (v := d) e3
  rw [List.setIfInBounds_toArray] at e4
  have e5 := setSame (j := i * 5 + 4) (v := e) e4
  rw [List.setIfInBounds_toArray] at e5
  exact e5

theorem below5 {w0 w : World} {N B o : Nat} {a b c d e : Value} (h : Below N w0 w) (hB : N ≤ B) : Below N w0 (st5 w B o a b c d e) :=
  ((((h.setCell hB _).setCell hB _).setCell hB _).setCell hB _).setCell hB _
theorem size5 {w : World} {B o : Nat} {a b c d e : Value} : (st5 w B o a b c d e).heap.size = w.heap.size := by simp [st5, World.setCell]

/-- The model that the law lays: in blocks B (its races), B + 3 (itself), B + 4 (its clocks), B + 5 (the writes to variable v), B + 6 (its stores). -/
structure St (w : World) (B v : Nat) (vs ps : List Value) (sq xs : List Int) (next : Int) (hv : Value) (work : Int) : Prop where
  mod : Mod w (B + 3) B (.slice (some ⟨B + 4, 0, none⟩) vs.length vs.length) hv (.slice (some ⟨B + 6, 0, none⟩) (v + 1) (v + 1)) work
  clk : w.heap[B + 4]? = some (.cells vs.toArray 71)
  wr : ∃ C : List Value, w.heap[B + 5]? = some (.cells C.toArray 91) ∧ Laid C sq xs ps sq.length
  st : ∃ E : Array Value, w.heap[B + 6]? = some (.cells E 93) ∧ E[v * 2]? = some (.slice (some ⟨B + 5, 0, none⟩) sq.length sq.length) ∧ E[v * 2 + 1]? = some (.int .i64 next)

set_option maxHeartbeats 2000000 in
set_option maxRecDepth 100000 in
theorem mstore_any (base : Nat) (cv sv xv pv : Value) (vs ps : List Value) (sq xs : List Int) (v : Nat) (next : Int) (w : World) (hc : Grid w base cv vs) (hs : IRow w base sv sq) (hx : IRow w base xv xs) (hp : Grid w base pv ps)
    (hl : vs.length ≤ 1048576) (hn : sq.length ≤ 1048576) (h1 : xs.length = sq.length) (h2 : ps.length = sq.length) (hv : v ≤ 65536) :
    Calls Try.prog 37 #[cv, .int .i64 v, sv, xv, pv, .int .i64 next] w fun e w' => e = .returned (.pointer (some ⟨w.heap.size + 3, 0, none⟩)) ∧ St w' w.heap.size v vs ps sq xs next (.slice none 0 0) 0 ∧ Below w.heap.size w w' := by
  have HNM := hide (newModel_any base cv vs w hc hl)
  obtain ⟨pc, cc, rfl⟩ := slice_of hc.row
  obtain ⟨pS, cS, rfl⟩ := slice_of hs
  obtain ⟨px, cx, rfl⟩ := slice_of hx
  obtain ⟨pp, cp, rfl⟩ := slice_of hp.row
  have HS := hide hs
  have HX := hide hx
  have HP := hide hp
  clear hc hs hx hp
  generalize hm : vs.length = k at *
  have HK := hide hm
  generalize hnn : sq.length = n at *
  have HN := hide hnn
  have H1 := hide h1
  have H2 := hide h2
  clear hm hnn
  rw [h1, h2]
  clear h1 h2
  have hmk := make77 n hn
  have hmk2 := make70 (v + 1) (by omega)
  have z1 := size_madeCells #[.int .i64 0, .int .i64 0, .slice none 0 0, .nilIface, .slice none 0 0] (n * 5)
  generalize hD : madeCells #[.int .i64 0, .int .i64 0, .slice none 0 0, .nilIface, .slice none 0 0] (n * 5) = D at *
  have z2 := size_madeCells #[.slice none 0 0, .int .i64 0] ((v + 1) * 2)
  generalize hE : madeCells #[.slice none 0 0, .int .i64 0] ((v + 1) * 2) = E at *
  have HZ1 := hide z1
  have HZ2 := hide z2
  clear hD hE z1 z2
  go_enter Try.func37, Try.ntmps37
  go_wp2_with fail
  refine (unhide HNM).mono ?_
  rintro e w1 ⟨rfl, hM, hcb, hsz, hb1⟩
  have HM := hide hM
  have HCB := hide hcb
  have HSZ := hide hsz
  have HB1 := hide hb1
  clear hM hcb hsz hb1 HNM
  go_wp2
  clear hmk
  have hs1 := unhide HSZ
  have HHS := hide hs1
  clear hs1
  go_loopw [23] (fun t wr => ∃ (j : Nat) (C : List Value), j ≤ n ∧ t = .int .i64 j ∧ C.length = n * 5 ∧ wr.heap[w1.heap.size]? = some (.cells C.toArray 91) ∧ Laid C sq xs ps j ∧ Below w1.heap.size w1 wr ∧ wr.heap.size = w1.heap.size + 1) (fun t _ => n - (intOf t).toNat)
  case atStart => exact ⟨0, D.toList, Nat.zero_le _, rfl, by have := unhide HZ1; simpa using this, zn w1 _, Laid.zero _ _ _ _, (Below.refl _ _).alloc (Nat.le_refl _) _, by simp⟩
  case round =>
    obtain ⟨j, C, hj, rfl, hcl, hblk, hlaid, hbel, hws⟩ := hrel
    by_cases hlt : j < n
    · have hbw : Below w.heap.size w wr := (unhide HB1).trans (hbel.mono (unhide HB1).size)
      obtain ⟨s, hs⟩ : ∃ s, sq[j]? = some s := ⟨_, List.getElem?_eq_getElem (by rw [unhide HN]; exact hlt)⟩
      obtain ⟨x, hx⟩ : ∃ x, xs[j]? = some x := ⟨_, List.getElem?_eq_getElem (by rw [unhide H1]; exact hlt)⟩
      obtain ⟨pv, hp⟩ : ∃ pv, ps[j]? = some pv := ⟨_, List.getElem?_eq_getElem (by rw [unhide H2]; exact hlt)⟩
      obtain ⟨gs, ks, es, hgs, _, cS0⟩ := (unhide HS).at hs
      obtain ⟨gx, kx, ex, hgx, _, cX0⟩ := (unhide HX).at hx
      obtain ⟨gp, kp, ep, hgp, _, cP0⟩ := (unhide HP).at hp
      injection es with es1 es2 es3
      injection ex with ex1 ex2 ex3
      injection ep with ep1 ep2 ep3
      clear es2 ex2 ep2
      subst es1; subst es3; subst ex1; subst ex3; subst ep1; subst ep3
      have cS1 : wr.cell? ⟨gs, j, none⟩ = some (.int .i64 s) := (hbw.cell (p := ⟨gs, j, none⟩) hgs).trans cS0
      have cX1 : wr.cell? ⟨gx, j, none⟩ = some (.int .i64 x) := (hbw.cell (p := ⟨gx, j, none⟩) hgx).trans cX0
      have cP1 : wr.cell? ⟨gp, j, none⟩ = some pv := (hbw.cell (p := ⟨gp, j, none⟩) hgp).trans cP0
      obtain ⟨ys, _, hyo⟩ := (unhide HP).each j (by rw [unhide H2]; exact hlt) pv hp
      obtain ⟨p1, c1, rfl⟩ := slice_of hyo
      clear hyo cS0 cX0 cP0
      have hw5 : w.heap.size ≤ w1.heap.size := (unhide HB1).size
      have z : ∀ q, q < 5 → ∃ y, wr.cell? ⟨w1.heap.size, j * 5 + q, none⟩ = some y := fun q hq => ⟨C[j * 5 + q]'(by omega), by rw [zcell hblk]; simp⟩
      obtain ⟨y0, z0⟩ := z 0 (by omega)
      obtain ⟨y1, z1⟩ := z 1 (by omega)
      obtain ⟨y2, z2⟩ := z 2 (by omega)
      obtain ⟨y3, z3⟩ := z 3 (by omega)
      obtain ⟨y4, z4⟩ := z 4 (by omega)
      rw [Nat.add_zero] at z0
      have zf := zfree hblk
      have HBLK := hide hblk
      have HLAID := hide hlaid
      have HBEL := hide hbel
      have HCL := hide hcl
      have HS1 := hide hs
      have HX1 := hide hx
      have HP1 := hide hp
      have HBW := hide hbw
      have HWS := hide hws
      clear hblk hlaid hbel hcl hs hx hp z hbw hws
      have hnS : gs ≠ w1.heap.size := by omega
      have hnX : gx ≠ w1.heap.size := by omega
      have hnP : gp ≠ w1.heap.size := by omega
      have S0 : wr.drew.cell? ⟨gs, j, none⟩ = some (.int .i64 s) ∧ wr.drew.cell? ⟨gx, j, none⟩ = some (.int .i64 x) ∧ wr.drew.cell? ⟨gp, j, none⟩ = some (.slice p1 ys.length c1) := ⟨cS1, cX1, cP1⟩
      go_wp2
      go_region_held3 (fun w' => w'.cell? ⟨gs, j, none⟩ = some (.int .i64 s) ∧ w'.cell? ⟨gx, j, none⟩ = some (.int .i64 x) ∧ w'.cell? ⟨gp, j, none⟩ = some (.slice p1 ys.length c1))
        (first | with_reducible exact S0 | (refine ⟨?_, ?_, ?_⟩; with_reducible exact (keep5 hnS).trans cS1; with_reducible exact (keep5 hnX).trans cX1; with_reducible exact (keep5 hnP).trans cP1)) (fail)
      have hcl := unhide HCL
      have HF := hide (blk5 (i := j) (a := .int .i64 s) (b := .int .i64 (-1)) (c := .slice none 0 0) (d := .iface 3 (.int .i64 x)) (e := .slice p1 ys.length c1) (unhide HBLK))
      have HFL := hide ((unhide HLAID).succ (unhide HS1) (unhide HX1) (unhide HP1) (by omega))
      have HFB := hide (below5 (o := j * 5) (a := .int .i64 s) (b := .int .i64 (-1)) (c := .slice none 0 0) (d := .iface 3 (.int .i64 x)) (e := .slice p1 ys.length c1) (unhide HBEL) (Nat.le_refl w1.heap.size))
      have HFS := hide ((size5 (w := wr) (B := w1.heap.size) (o := j * 5) (a := .int .i64 s) (b := .int .i64 (-1)) (c := .slice none 0 0) (d := .iface 3 (.int .i64 x)) (e := .slice p1 ys.length c1)).trans (unhide HWS))
      have HPL : (put5 C j (.int .i64 s) (.int .i64 (-1)) (.slice none 0 0) (.iface 3 (.int .i64 x)) (.slice p1 ys.length c1)).length = n * 5 := by simp [put5, hcl]
      have HPL := hide HPL
      unfold st5 at HF HFB HFS
      generalize (((((wr.setCell _ _).setCell _ _).setCell _ _).setCell _ _).setCell _ _) = W3 at *
      clear S0 cS1 cX1 cP1 z0 z1 z2 z3 z4 zf hcl
      go_wp2
      go_roundw
      case rel => exact ⟨j + 1, _, by omega, by go_num, unhide HPL, unhide HF, unhide HFL, (unhide HFB).drew, unhide HFS⟩
      case measure => simp [intOf]; omega
    · have hjn : j = n := by omega
      subst hjn
      have hM := (unhide HM).on hbel (Nat.le_refl _)
      have hm3 := hM.cells.2.2.2.1
      have hmf := hM.free 3
      have hmlt := hM.lt
      have HMW := hide hM
      have HBLK := hide hblk
      have HLAID := hide hlaid
      have HBEL := hide hbel
      have HWS := hide hws
      have hE := unhide HZ2
      have hmk3 : ∀ W : World, Sem.run Try.prog (Instr.makeSlice 70 (.int .i64 ((v : Int) + 1)) (.int .i64 ((v : Int) + 1))) W = .ok (.slice (some ⟨W.heap.size, 0, none⟩) (v + 1) (v + 1)) (W.alloc (.cells E 93)) := fun W => hmk2 W
      clear hM hblk hlaid hbel hcl hws hmk2
      have hvE : v * 2 + 1 < E.size := by omega
      have hE0 : E[v * 2]? = some (E[v * 2]'(by omega)) := Array.getElem?_eq_getElem _
      have hE1 : E[v * 2 + 1]? = some (E[v * 2 + 1]'hvE) := Array.getElem?_eq_getElem _
      generalize E[v * 2]'(by omega) = y0 at hE0
      generalize E[v * 2 + 1]'hvE = y1 at hE1
      have hE2 : ∀ u : Value, (E.setIfInBounds (v * 2) u)[v * 2 + 1]? = some y1 := fun u => by rw [Array.getElem?_setIfInBounds_ne (by omega)]; exact hE1
      have HE := hide hE
      clear hE hvE
      go_wp2
      go_ret
      have e1 := unhide HSZ
      have e2 := unhide HWS
      have e3 : wr.heap.size = w.heap.size + 6 := by omega
      have hM2 := (unhide HMW).set (mset3 _ _ _ _ (.slice (some ⟨wr.heap.size, 0, none⟩) (v + 1) (v + 1)) _)
      have hsz2 : (wr.setCell ⟨w.heap.size + 3, 3, none⟩ (.slice (some ⟨wr.heap.size, 0, none⟩) (v + 1) (v + 1))).heap.size = w.heap.size + 6 := by rw [← e3]; simp [World.setCell]
      have old : ∀ i, i < w.heap.size + 6 → i ≠ w.heap.size + 3 → ∀ o, ((wr.setCell ⟨w.heap.size + 3, 3, none⟩ (.slice (some ⟨wr.heap.size, 0, none⟩) (v + 1) (v + 1))).alloc o).heap[i]? = wr.heap[i]? := fun i hi hne o =>
        (Below.heap_alloc _ o i (by rw [hsz2]; exact hi)).trans (Below.heap_setCell wr ⟨w.heap.size + 3, 3, none⟩ _ i hne)
      have hbw : Below w.heap.size w wr := (unhide HB1).trans ((unhide HBEL).mono (unhide HB1).size)
      refine ⟨rfl, ⟨?_, ?_, ?_, ?_⟩, (hbw.setCell (by show w.heap.size ≤ w.heap.size + 3; omega) _).alloc (by omega) _⟩
      · rw [unhide HK, ← e3]
        exact hM2.on ((Below.refl _ _).alloc (Nat.le_refl _) _) (Nat.le_refl _)
      · rw [old _ (by omega) (by omega), (unhide HBEL).block _ (by omega)]
        exact unhide HCB
      · refine ⟨C, ?_, ?_⟩
        · rw [old _ (by omega) (by omega), show w.heap.size + 5 = w1.heap.size by omega]
          exact unhide HBLK
        · rw [unhide HN]
          exact unhide HLAID
      · refine ⟨(E.setIfInBounds (v * 2) (.slice (some ⟨w1.heap.size, 0, none⟩) j j)).setIfInBounds (v * 2 + 1) (.int .i64 next), ?_, ?_, ?_⟩
        · have := zn (wr.setCell ⟨w.heap.size + 3, 3, none⟩ (.slice (some ⟨wr.heap.size, 0, none⟩) (v + 1) (v + 1))) (.cells ((E.setIfInBounds (v * 2) (.slice (some ⟨w1.heap.size, 0, none⟩) j j)).setIfInBounds (v * 2 + 1) (.int .i64 next)) 93)
          rw [hsz2] at this
          exact this
        · rw [Array.getElem?_setIfInBounds_ne (by omega), Array.getElem?_setIfInBounds_self_of_lt (by have := unhide HE; omega), unhide HN, e1]
        · rw [Array.getElem?_setIfInBounds_self_of_lt (by have := unhide HE; simp; omega)]
end Go.Proofs.Qxb6615079a
