/-
  tick.
-/
import Derived.Test.Qxb6615079aTick
namespace Go.Proofs.Qxb6615079a
open Go.RowKit

section
variable {w w' : World} {B v : Nat} {vs ps : List Value} {sq xs : List Int} {next : Int} {hv : Value} {work : Int}

theorem St.grown (h : St w B v vs ps sq xs next hv work) {row : Option Nat} (hg : w.grownBy w' row) (hr : ∀ i, B ≤ i → i ≤ B + 6 → some i ≠ row) : St w' B v vs ps sq xs next hv work := by
  have hl := h.lt
  obtain ⟨C, h1, h2⟩ := h.wr
  obtain ⟨E, h3, h4⟩ := h.st
  exact ⟨h.mod.grown hg (hr _ (by omega) (by omega)) (hr _ (by omega) (by omega)), (hg.block _ (by omega) (hr _ (by omega) (by omega))).trans h.clk, ⟨C, (hg.block _ (by omega) (hr _ (by omega) (by omega))).trans h1, h2⟩, ⟨E, (hg.block _ (by omega) (hr _ (by omega) (by omega))).trans h3, h4⟩⟩

/-- a store into the clocks' row -/
theorem St.setClock (h : St w B v vs ps sq xs next hv work) (g : Nat) (u : Value) : St (w.setCell ⟨B + 4, g, none⟩ u) B v (vs.set g u) ps sq xs next hv work := by
  have hg := grown_set w (B + 4) g u
  have hl := h.lt
  obtain ⟨C, h1, h2⟩ := h.wr
  obtain ⟨E, h3, h4⟩ := h.st
  refine ⟨?_, ?_, ⟨C, (hg.block _ (by omega) (by simp)).trans h1, h2⟩, ⟨E, (hg.block _ (by omega) (by simp)).trans h3, h4⟩⟩
  · rw [List.length_set]
    exact h.mod.grown hg (by simp) (by simp)
  · have := setSame (j := g) (v := u) h.clk
    rwa [List.setIfInBounds_toArray] at this

theorem St.clock (h : St w B v vs ps sq xs next hv work) {g : Nat} {u : Value} (hu : vs[g]? = some u) : w.cell? ⟨B + 4, g, none⟩ = some u ∧ w.frozen? ⟨B + 4, g, none⟩ = false :=
  ⟨(zcell h.clk g).trans (by simpa using hu), zfree h.clk g⟩
end

/-- the blocks lo .. hi are as they were -/
def Kept (lo hi : Nat) (w w' : World) : Prop := ∀ k, lo ≤ k → k < hi → w'.heap[k]? = w.heap[k]?
theorem Kept.refl (lo hi : Nat) (w : World) : Kept lo hi w w := fun _ _ _ => rfl
theorem Kept.trans {lo hi : Nat} {w w1 w2 : World} (h : Kept lo hi w w1) (h' : Kept lo hi w1 w2) : Kept lo hi w w2 := fun k h1 h2 => (h' k h1 h2).trans (h k h1 h2)
theorem Kept.grown {lo hi : Nat} {w w1 w2 : World} {row : Option Nat} (h : Kept lo hi w w1) (hg : w1.grownBy w2 row) (hs : hi ≤ w1.heap.size) (hr : ∀ j, some j = row → j < lo ∨ hi ≤ j) : Kept lo hi w w2 :=
  fun k h1 h2 => (hg.block k (Nat.lt_of_lt_of_le h2 hs) (fun e => by rcases hr k e with h3 | h3 <;> omega)).trans (h k h1 h2)
theorem Kept.set {lo hi : Nat} {w w1 : World} (h : Kept lo hi w w1) {b j : Nat} (u : Value) (hb : b < lo ∨ hi ≤ b) : Kept lo hi w (w1.setCell ⟨b, j, none⟩ u) :=
  fun k h1 h2 => (Below.heap_setCell w1 ⟨b, j, none⟩ u k (by show k ≠ b; rcases hb with h3 | h3 <;> omega)).trans (h k h1 h2)
theorem Kept.below {lo hi B : Nat} {w w1 w2 : World} (h : Kept lo hi w w1) (hb : Below B w1 w2) (hB : hi ≤ B) : Kept lo hi w w2 :=
  fun k h1 h2 => (hb.block k (Nat.lt_of_lt_of_le h2 hB)).trans (h k h1 h2)

/-- a slice's length -/
def lenOf : Value → Nat
  | .slice _ n _ => n
  | _ => 0

theorem info38 : (Try.prog.info? 38).map (fun i => (i.zero, i.size, i.bytes)) = some (some (.int .u32 0), 1, 4) := by kernel_rfl

theorem grown_alloc_row {w w' : World} {o : Obj} {row : Option Nat} (hg : (w.alloc o).grownBy w' row) : w.grownBy w' row :=
  ⟨hg.os, hg.tape, hg.output, by have := hg.size; simp at this; omega, fun i hi hne => (hg.block i (by simp; omega) hne).trans (Below.heap_alloc w o i hi)⟩

theorem ints_snoc (ys : List Int) (y : Int) : ys.map (Value.int .u32) ++ [.int .u32 y] = (ys ++ [y]).map (Value.int .u32) := by simp

set_option maxHeartbeats 2000000 in
set_option maxRecDepth 100000 in
theorem tick_any {B v : Nat} {vs ps : List Value} {sq xs : List Int} {next : Int} {hv : Value} {work : Int} (base Bp n g : Nat) (u : Value) (w : World) (h : St w B v vs ps sq xs next hv work) (hu : vs[g]? = some u) (hk : ClkA w base Bp B u n)
    (_hn : n ≤ 2097152) (hg : g ≤ 1048576) (_hk1 : vs.length ≤ 1048576) (hb : base ≤ B) (hBp : Bp ≤ B) :
    Calls Try.prog 48 #[.pointer (some ⟨B + 3, 0, none⟩), .int .i64 g] w fun e w' => e = .returned (.tuple #[]) ∧ (∃ u', St w' B v (vs.set g u') ps sq xs next hv work) ∧ Below base w w' ∧ Kept Bp B w w' := by
  obtain ⟨i0, hi, hz0, hz1, hz2⟩ := info_parts info38
  obtain ⟨ys, hyl, hown, hap⟩ := hk
  have hgv := (List.getElem?_eq_some_iff.1 hu).1
  obtain ⟨pu, cu, rfl⟩ := slice_of hown
  have m1 := h.mod.cells.2.1
  have c1 := (h.clock hu).1
  have hlt := h.lt
  have HST := hide h
  have HOWN := hide hown
  have HAP := hide hap
  have HYL := hide hyl
  have HU := hide hu
  clear h hown hap hyl hu
  generalize hkk : vs.length = k at *
  have HKK := hide hkk
  clear hkk
  go_enter Try.func48, Try.ntmps48
  go_wp2
  clear m1 c1
  go_loopw [4] (fun t wr => ∃ (n' : Nat) (ys' : List Int), (n' ≤ n ∨ n' ≤ g + 1) ∧ ys'.length = n' ∧ wr.ownsRow base 38 1 t n' (ys'.map (Value.int .u32)) ∧ (∀ j, t.ownBlock = some j → j < Bp ∨ B + 6 < j) ∧ St wr B v vs ps sq xs next hv work ∧ Below base w wr ∧ Kept Bp B w wr) (fun t _ => g + 1 - lenOf t)
  case atStart => exact ⟨n, ys, .inl (Nat.le_refl _), unhide HYL, unhide HOWN, unhide HAP, unhide HST, Below.refl _ _, Kept.refl _ _ _⟩
  case round =>
    obtain ⟨n', ys', hle, hyl', hown', hap', hst', hbel', hkp'⟩ := hrel
    have HKP := hide hkp'
    clear hkp'
    obtain ⟨p1, c1, rfl⟩ := slice_of hown'
    have hlt' := hst'.lt
    by_cases hle2 : n' ≤ g
    · have HOW := hide hown'
      have HAP' := hide hap'
      have HST' := hide hst'
      have HBEL := hide hbel'
      clear hown' hap' hst' hbel'
      go_wp2_with (first
        | (at_builtin; refine append_shape _ rfl _ _ 71 rfl base 38 i0 (.int .u32 0) 1 4 Try.underlying71 hi hz0 hz1 hz2 rfl (by decide) _ _ _ rfl ((unhide HOW).alloc _) ⟨wr.heap.size, 0, none⟩ 1 1 [.int .u32 0] rfl rfl (World.news_of_block (cs := #[.int .u32 0]) (zn wr _)) (ints_oneCell .u32 [0]) (by unfold maxLen; omega) (by omega) (by simp; omega) (by decide) ?_; intro g2 cap2 w1 hg2 hcap2 hown2 hgrow2 hat2))
      have hgr : (wr.alloc (.cells #[.int .u32 0] 38)).grownBy w1 (Value.slice p1 n' c1).ownBlock := hgrow2
      have hat : (Value.slice p1 n' c1).ownBlock = some g2 ∨ g2 = wr.heap.size + 1 := by
        have h := hat2
        rw [show (wr.alloc (.cells #[.int .u32 0] 38)).heap.size = wr.heap.size + 1 by simp] at h
        exact h
      clear hgrow2 hat2
      have hgr' := grown_alloc_row hgr
      have hB2 : Below base w w1 := (unhide HBEL).grown hgr' (by omega) (fun j hj => (own_block (unhide HOW) hj).1)
      have hS2 := (unhide HST').grown hgr' (fun i h1 h2 e => by rcases unhide HAP' i e.symm with h3 | h3 <;> omega)
      have HKP2 := hide ((unhide HKP).grown hgr' (by omega) (fun j hj => by rcases unhide HAP' j hj.symm with h3 | h3 <;> omega))
      have hA2 : ∀ j, (Value.slice (some ⟨g2, 0, none⟩) (n' + 1) cap2).ownBlock = some j → j < Bp ∨ B + 6 < j := by
        intro j hj
        simp [Value.ownBlock] at hj
        subst hj
        rcases hat with h1 | h1
        · exact unhide HAP' _ h1
        · exact .inr (by omega)
      rw [ints_snoc] at hown2
      have HO2 := hide hown2
      have HB2 := hide hB2
      have HS2 := hide hS2
      have HA2 := hide hA2
      clear hgr hgr' hat hB2 hS2 hA2 hown2
      go_roundw
      case rel => exact ⟨n' + 1, ys' ++ [0], .inr (by omega), by simp [hyl'], unhide HO2, unhide HA2, unhide HS2, unhide HB2, unhide HKP2⟩
      case measure => simp [lenOf]; omega
    · rcases id hown'.2 with ⟨_, h0⟩ | ⟨b, cap, cur, e0, hbb, hblk, _⟩
      · omega
      injection e0 with e1 _ e3
      subst e1; subst e3
      obtain ⟨y, hy⟩ : ∃ y, ys'[g]? = some y := ⟨_, List.getElem?_eq_getElem (by omega)⟩
      obtain ⟨cy, fy, hbl⟩ := own_cell hown' (i := g) (u := .int .u32 y) (by simp [hy])
      have hab := hap' b rfl
      have hn3 : b ≠ B + 3 := by omega
      have hn4 : b ≠ B + 4 := by omega
      have m1 := hst'.mod.cells.2.1
      obtain ⟨cg, fg⟩ := hst'.clock (unhide HU)
      rw [unhide HKK] at m1
      have HST' := hide hst'
      have HBEL := hide hbel'
      clear hst' hbel' hown' hap' hblk hle
      go_wp2
      go_end0
      have hg1 := grown_set wr b g (.int .u32 ((y + 1) % 4294967296))
      have hS1 := (unhide HST').grown hg1 (fun i h1 h2 e => by have := Option.some.inj e; omega)
      exact ⟨rfl, ⟨_, hS1.setClock g _⟩, ((unhide HBEL).setCell hbb _).setCell (by show base ≤ B + 4; omega) _, ((unhide HKP).set _ (by omega)).set _ (by omega)⟩
end Go.Proofs.Qxb6615079a
