/-
  cloneUU: a slice of slices of the call's own.
-/
import Derived.Test.Qxb6615079aClone
namespace Go.Proofs.Qxb6615079a
open Go.RowKit

theorem own_below {w w' : World} {base e k n B : Nat} {v : Value} {xs : List Value} (h : w.ownsRow base e k v n xs) (hb : Below B w w') (hB : w.heap.size ≤ B) : w'.ownsRow base e k v n xs := by
  rcases h with ⟨hl, h0 | ⟨g, cap, cur, e0, hbg, hh, r⟩⟩
  · exact ⟨hl, .inl h0⟩
  · exact ⟨hl, .inr ⟨g, cap, cur, e0, hbg, (hb.block g (Nat.lt_of_lt_of_le (Array.getElem?_eq_some_iff.1 hh).1 hB)).trans hh, r⟩⟩

theorem own_grown {w w' : World} {base e k n : Nat} {row : Option Nat} {v : Value} {xs : List Value} (h : w.ownsRow base e k v n xs) (hg : w.grownBy w' row) (hr : ∀ j, v.ownBlock = some j → some j ≠ row) : w'.ownsRow base e k v n xs := by
  rcases h with ⟨hl, h0 | ⟨g, cap, cur, e0, hbg, hh, q⟩⟩
  · exact ⟨hl, .inl h0⟩
  · exact ⟨hl, .inr ⟨g, cap, cur, e0, hbg, (hg.block g (Array.getElem?_eq_some_iff.1 hh).1 (hr g (by rw [e0]; rfl))).trans hh, q⟩⟩

theorem own_mono {w : World} {base base' e k n : Nat} {v : Value} {xs : List Value} (h : w.ownsRow base e k v n xs) (hb : base' ≤ base) : w.ownsRow base' e k v n xs := by
  rcases h with ⟨hl, h0 | ⟨g, cap, cur, e0, hbg, q⟩⟩
  · exact ⟨hl, .inl h0⟩
  · exact ⟨hl, .inr ⟨g, cap, cur, e0, Nat.le_trans hb hbg, q⟩⟩

theorem own_block {w : World} {base e k n : Nat} {v : Value} {xs : List Value} (h : w.ownsRow base e k v n xs) {j : Nat} (hj : v.ownBlock = some j) : base ≤ j ∧ j < w.heap.size := by
  rcases h.2 with ⟨rfl, _⟩ | ⟨g, cap, cur, rfl, hb, hg, _⟩
  · cases hj
  · simp [Value.ownBlock] at hj
    subst hj
    exact ⟨hb, (Array.getElem?_eq_some_iff.1 hg).1⟩

theorem slice_of {w : World} {base e k n : Nat} {v : Value} {xs : List Value} (h : w.ownsRow base e k v n xs) : ∃ p c, v = .slice p n c := by
  rcases h.2 with ⟨rfl, h0⟩ | ⟨g, cap, cur, rfl, _⟩
  · exact ⟨_, _, by rw [h0]⟩
  · exact ⟨_, _, rfl⟩

/-- a slice of uint32 of the call's own -/
def Clk (w : World) (base : Nat) (u : Value) : Prop := ∃ ys : List Int, ys.length ≤ 1048576 ∧ w.ownsRow base 38 1 u ys.length (ys.map (Value.int .u32))

theorem Clk.on {w w' : World} {base B : Nat} {u : Value} (h : Clk w base u) (hb : Below B w w') (hB : w.heap.size ≤ B) : Clk w' base u := by
  obtain ⟨ys, h1, h2⟩ := h
  exact ⟨ys, h1, own_below h2 hb hB⟩
theorem Clk.mono {w : World} {base base' : Nat} {u : Value} (h : Clk w base u) (hb : base' ≤ base) : Clk w base' u := by
  obtain ⟨ys, h1, h2⟩ := h
  exact ⟨ys, h1, own_mono h2 hb⟩
theorem Clk.grown {w w' : World} {base : Nat} {row : Option Nat} {u : Value} (h : Clk w base u) (hg : w.grownBy w' row) (hr : ∀ j, u.ownBlock = some j → some j ≠ row) : Clk w' base u := by
  obtain ⟨ys, h1, h2⟩ := h
  exact ⟨ys, h1, own_grown h2 hg hr⟩

/-- the first j of the values are clocks of the call's own -/
def Clks (w : World) (base : Nat) (vs : List Value) (j : Nat) : Prop := ∀ i, i < j → ∀ u, vs[i]? = some u → Clk w base u

/-- a slice of such slices, all of the call's own -/
structure Grid (w : World) (base : Nat) (v : Value) (vs : List Value) : Prop where
  row : w.ownsRow base 23 1 v vs.length vs
  each : Clks w base vs vs.length

theorem make22 (k : Nat) (hk : k ≤ 1048576) (W : World) : Sem.run Try.prog (Instr.makeSlice 22 (.int .i64 (k : Int)) (.int .i64 (k : Int))) W =
    .ok (.slice (some ⟨W.heap.size, 0, none⟩) k k) (W.alloc (.cells (madeCells #[.slice none 0 0] k) 23)) := by
  obtain ⟨i0, hi, hz0, hz1, hz2⟩ := info_parts (show (Try.prog.info? 23).map (fun i => (i.zero, i.size, i.bytes)) = some (some (.slice none 0 0), 1, 24) by kernel_rfl)
  have h := run_make W 22 23 i0 (.slice none 0 0) Try.underlying22 hi hz0 .i64 .i64 k k (by omega) (by omega) (by rw [hz2]; omega) (by omega)
  rw [h, hz1]
  simp [Value.cells]

theorem zn (w : World) (o : Obj) : (w.alloc o).heap[w.heap.size]? = some o := by
  show (w.heap.push _)[w.heap.size]? = _
  simp
theorem zcell {w : World} {p t : Nat} {z : Array Value} (h : w.heap[p]? = some (.cells z t)) : ∀ o, w.cell? ⟨p, o, none⟩ = z[o]? := by
  intro o
  unfold World.cell?
  rw [h]
  rfl
theorem zfree {w : World} {p t : Nat} {z : Array Value} (h : w.heap[p]? = some (.cells z t)) : ∀ o, w.frozen? ⟨p, o, none⟩ = false := by
  intro o
  unfold World.frozen?
  rw [h]
  simp
theorem setSame {w : World} {B j t : Nat} {z : Array Value} {v : Value} (h : w.heap[B]? = some (.cells z t)) : (w.setCell ⟨B, j, none⟩ v).heap[B]? = some (.cells (z.setIfInBounds j v) t) := by
  simp [World.setCell, Array.getElem?_modify, h]
theorem grown_set (w : World) (B j : Nat) (v : Value) : w.grownBy (w.setCell ⟨B, j, none⟩ v) (some B) :=
  ⟨rfl, rfl, rfl, by simp [World.setCell], fun i _ hne => Below.heap_setCell w ⟨B, j, none⟩ v i (by intro e; exact hne (by rw [e]))⟩

/-- the call returned such a slice of n slices -/
def GridRet (base n : Nat) (e : Ending) (w' : World) : Prop := ∃ v vs, e = .returned v ∧ vs.length = n ∧ Grid w' base v vs

theorem Clks.set {w w' : World} {base : Nat} {vs : List Value} {j : Nat} {u : Value} (h : Clks w base vs j) (hw : ∀ v, Clk w base v → Clk w' base v) (hu : Clk w' base u) : Clks w' base (vs.set j u) (j + 1) := by
  intro i hi x hx
  by_cases e : i = j
  · subst e
    rw [List.getElem?_set_self'] at hx
    cases hv : vs[i]? with
    | none => rw [hv] at hx; simp at hx
    | some y => rw [hv] at hx; simp at hx; subst hx; exact hu
  · rw [List.getElem?_set_ne (by omega)] at hx
    exact hw x (h i (by omega) x hx)

set_option maxHeartbeats 1000000 in
set_option maxRecDepth 100000 in
theorem cloneUU_any (a : Option Addr) (c : Nat) (cs : List In) (w : World) (hc : NRow w a cs) (hl : cs.length ≤ 1048576) (hsh : Short cs cs.length) (ha : a = none → cs = [] ∧ c = 0) :
    Calls Try.prog 13 #[.slice a cs.length c] w fun e w' => GridRet w.heap.size cs.length e w' ∧ Below w.heap.size w w' := by
  have hq : ∀ (W : World) (a : Option Addr) (n c : Nat), (binOp .eql 22 (.slice a n c) (.slice none 0 0)).run Try.prog W = .ok (.bool a.isNone) W := fun W a n c => Lib.run_eql_slice_nil W _ _ a n c 0 0 Try.underlying22
  cases a with
  | none =>
    obtain ⟨rfl, rfl⟩ := ha rfl
    go_enter Try.func13, Try.ntmps13
    go_wp2
    go_ret
    exact ⟨⟨_, [], rfl, rfl, ⟨World.ownsRow_nil _ _ _ _, fun i hi => by simp at hi⟩⟩, Below.refl _ _⟩
  | some ad =>
    clear ha
    have HC := hide hc
    have HSH := hide hsh
    clear hc hsh
    generalize hn : cs.length = n at *
    have HN := hide hn
    clear hn
    have hmk := make22 n hl
    have z1 := size_madeCells #[.slice none 0 0] n
    generalize hD : madeCells #[.slice none 0 0] n = D at *
    have HZ := hide z1
    clear hD z1
    go_enter Try.func13, Try.ntmps13
    go_wp2
    clear hmk hq
    go_loopw [4] (fun t wr => ∃ (j : Nat) (vs : List Value), j ≤ n ∧ t = .int .i64 j ∧ vs.length = n ∧ wr.heap[w.heap.size]? = some (.cells vs.toArray 23) ∧ Clks wr (w.heap.size + 1) vs j ∧ Below w.heap.size w wr) (fun t _ => n - (intOf t).toNat)
    case atStart =>
      refine ⟨0, D.toList, Nat.zero_le _, rfl, by have := unhide HZ; simpa using this, zn w _, fun i hi => by omega, (Below.refl _ _).alloc (Nat.le_refl _) _⟩
    case round =>
      obtain ⟨j, vs, hj, rfl, hvl, hblk, hcl, hbel⟩ := hrel
      have hsz := (Array.getElem?_eq_some_iff.1 hblk).1
      by_cases hlt : j < n
      · obtain ⟨b, o, hab, hb, ci, hci, hcell⟩ := ((unhide HC).on (Nat.le_refl _) hbel).at (i := j) (by rw [unhide HN]; exact hlt)
        cases hab
        have hin := ((unhide HC).on (Nat.le_refl _) hbel).each ci (List.mem_of_getElem? hci)
        have HI := hide hin
        have hlen := unhide HSH j (by omega) ci hci
        have HB := hide hblk
        have HCL := hide hcl
        have HBEL := hide hbel
        have HV := hide hvl
        clear hci hin hblk hcl hbel hvl
        go_wp2_with fail
        refine (cloneU_any ci.a ci.cap ci.xs _ (unhide HI).1 hlen (unhide HI).2).mono ?_
        rintro e w1 ⟨v, rfl, hown, hb1⟩
        obtain ⟨p1, c1, rfl⟩ := slice_of hown
        have hblk1 : w1.heap[w.heap.size]? = some (.cells vs.toArray 23) := (hb1.block _ hsz).trans (unhide HB)
        have zc := zcell hblk1
        have zf := zfree hblk1
        obtain ⟨u0, hu0⟩ : ∃ u, vs[j]? = some u := ⟨_, List.getElem?_eq_getElem (by rw [unhide HV]; exact hlt)⟩
        have hcj : w1.cell? ⟨w.heap.size, j, none⟩ = some u0 := (zc j).trans (by simpa using hu0)
        have hfj := zf j
        have HU := hide hown
        have HB1 := hide hb1
        have HK := hide hblk1
        clear zc zf hown hb1 hblk1 hu0
        go_wp2
        go_roundw
        case rel =>
          have hs1 := (unhide HB1).size
          have hg := grown_set w1 w.heap.size j (.slice p1 ci.xs.length c1)
          have hfar : ∀ x, Clk w1 (w.heap.size + 1) x → Clk (w1.setCell ⟨w.heap.size, j, none⟩ (.slice p1 ci.xs.length c1)) (w.heap.size + 1) x := fun x hx => hx.grown hg (fun q hq => by
            obtain ⟨ys, _, hy⟩ := hx
            have := (own_block hy hq).1
            simp; omega)
          refine ⟨j + 1, vs.set j (.slice p1 ci.xs.length c1), by omega, by go_num, by rw [List.length_set, unhide HV], ?_, ?_, ?_⟩
          · have := setSame (j := j) (v := .slice p1 ci.xs.length c1) (unhide HK)
            rw [List.setIfInBounds_toArray] at this
            exact this
          · refine (unhide HCL).set (fun x hx => hfar x (hx.on (unhide HB1) (Nat.le_refl _))) (hfar _ ⟨ci.xs, hlen, own_mono (unhide HU) (by omega)⟩)
          · exact ((unhide HBEL).trans ((unhide HB1).mono (by omega))).setCell (by show w.heap.size ≤ w.heap.size; omega) _
        case measure => simp [intOf]; omega
      · have hjn : j = n := by omega
        subst hjn
        have HB := hide hblk
        have HCL := hide hcl
        have HBEL := hide hbel
        have HV := hide hvl
        clear hblk hcl hbel hvl
        go_wp2
        go_ret
        refine ⟨⟨_, vs, rfl, unhide HV, ⟨?_, ?_⟩⟩, unhide HBEL⟩
        · rw [unhide HV]
          refine ⟨by rw [unhide HV]; omega, .inr ⟨w.heap.size, j, vs.toArray, rfl, Nat.le_refl _, unhide HB, Nat.le_refl _, by unfold maxLen; omega, by simp [unhide HV], ?_⟩⟩
          rw [Nat.mul_one, List.take_of_length_le (by simp [unhide HV])]
        · intro i hi u hu
          exact (unhide HCL i (by rw [← unhide HV]; exact hi) u hu).mono (by omega)
end Go.Proofs.Qxb6615079a
