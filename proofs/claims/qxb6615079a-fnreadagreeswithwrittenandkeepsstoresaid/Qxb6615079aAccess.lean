/-
  access.
-/
import Derived.Test.Qxb6615079aJoin
import Derived.Deep.RegionLaw
import Derived.Deep.CutRange
namespace Go.Proofs.Qxb6615079a
open Go.RowKit

section
variable {w w' : World} {B v : Nat} {vs ps : List Value} {sq xs : List Int} {next : Int} {hv : Value} {work : Int}

theorem St.setMod (h : St w B v vs ps sq xs next hv work) {j : Nat} {u hv' : Value} {work' : Int} (he : ∀ cv sv, (mCells B cv hv sv work).setIfInBounds j u = mCells B cv hv' sv work') : St (w.setCell ⟨B + 3, j, none⟩ u) B v vs ps sq xs next hv' work' := by
  have hg := grown_set w (B + 3) j u
  have hl := h.lt
  obtain ⟨C, h1, h2⟩ := h.wr
  obtain ⟨E, h3, h4⟩ := h.st
  exact ⟨h.mod.set (he _ _), (hg.block _ (by omega) (by simp)).trans h.clk, ⟨C, (hg.block _ (by omega) (by simp)).trans h1, h2⟩, ⟨E, (hg.block _ (by omega) (by simp)).trans h3, h4⟩⟩

theorem ClkA.grown {base Bp n : Nat} {u : Value} (h : ClkA w base Bp B u n) {row : Option Nat} (hg : w.grownBy w' row) (hr : ∀ j, some j = row → (Bp ≤ j ∧ j ≤ B + 6) ∨ u.ownBlock ≠ some j) : ClkA w' base Bp B u n := by
  obtain ⟨ys, h1, h2, h3⟩ := h
  refine ⟨ys, h1, own_grown h2 hg (fun j hj e => ?_), h3⟩
  rcases hr j e with h4 | h4
  · rcases h3 j hj with h5 | h5 <;> omega
  · exact h4 hj
end

/-- the history's length, read off the world -/
def histLen (w : World) (B : Nat) : Nat := match w.cell? ⟨B + 3, 2, none⟩ with
  | some (.slice _ n _) => n
  | _ => 0

theorem info76 : (Try.prog.info? 76).map (fun i => (i.zero, i.size, i.bytes)) = some (some (.slice none 0 0), 1, 24) := by kernel_rfl

theorem info112a : (Try.prog.info? 112).map (fun i => (i.size, i.bytes)) = some (6, 56) := by kernel_rfl
theorem info112b : ((Try.prog.info? 112).bind (fun i => i.zero)).map (fun z => z.cells.size) = some 6 := by kernel_rfl
theorem info112 : ∃ (i : TypeInfo) (z : Value), Try.prog.info? 112 = some i ∧ i.zero = some z ∧ i.size = 6 ∧ i.bytes = 56 ∧ z.cells.size = 6 := by
  obtain ⟨i, h1, h2⟩ := Option.map_eq_some_iff.1 info112a
  obtain ⟨z, h3, h4⟩ := Option.map_eq_some_iff.1 info112b
  obtain ⟨i', h5, h6⟩ := Option.bind_eq_some_iff.1 h3
  rw [h1] at h5
  injection h5 with h5
  subst h5
  injection h2 with h7 h8
  exact ⟨i, z, h1, h6, h7, h8, h4⟩

theorem grown_drew {w w' : World} {row : Option Nat} (h : w.drew.grownBy w' row) : w.grownBy w' row := ⟨h.os, h.tape, h.output, h.size, h.block⟩

theorem ev_oneCell (g tt pos : Int) (name : ByteArray) (atm : Bool) : ∀ u ∈ [Value.int .i64 g, .int .u32 tt, .int .i64 pos, .int .u8 0, .string name, .bool atm], u.oneCell' = true := by
  intro u hu
  simp at hu
  rcases hu with rfl | rfl | rfl | rfl | rfl | rfl <;> rfl

theorem alloc_cell {w : World} {o : Obj} {i c : Nat} (h : i < w.heap.size) : (w.alloc o).drew.cell? ⟨i, c, none⟩ = w.cell? ⟨i, c, none⟩ :=
  (drew_cell _ _).trans (World.cell?_of_block (w := w) (Below.heap_alloc w o i h))

/-- n nil slices -/
def nils (n : Nat) : List Value := List.replicate n (.slice none 0 0)
theorem nils_snoc (n : Nat) : nils n ++ [.slice none 0 0] = nils (n + 1) := by simp [nils, List.replicate_succ']

/-- the event is laid -/
def EvW (wr : World) (g : Nat) (pos : Int) (name : ByteArray) (atm : Bool) (wx : World) : Prop := ∃ tt : Int, wx = (wr.alloc (.cells #[.int .i64 g, .int .u32 tt, .int .i64 pos, .int .u8 0, .string name, .bool atm] 112)).drew

/-- the event is kept -/
def Aft (w : World) (base Bp B v n : Nat) (vs ps : List Value) (sq xs : List Int) (next : Int) (u : Value) (wx : World) : Prop := ∃ hv', St wx B v vs ps sq xs next hv' 0 ∧ ClkA wx base Bp B u n ∧ Below base w wx ∧ Kept Bp B w wx

set_option maxHeartbeats 4000000 in
set_option maxRecDepth 100000 in
theorem access_any {B v : Nat} {vs ps : List Value} {sq xs : List Int} {next : Int} (base Bp n g : Nat) (u : Value) (pos : Int) (name : ByteArray) (atm : Bool) (w : World) (h : St w B v vs ps sq xs next (.slice none 0 0) 0) (hu : vs[g]? = some u) (hk : ClkA w base Bp B u n)
    (hn : n ≤ 1048576) (hg : g ≤ 1048576) (hk1 : vs.length ≤ 1048576) (hb : base ≤ B) (hBp : Bp ≤ B) (hv : v ≤ 65536) :
    Calls Try.prog 58 #[.pointer (some ⟨B + 3, 0, none⟩), .int .i64 g, .int .i64 v, .agg #[.int .i64 pos, .int .u8 0, .string name, .bool atm]] w fun e w' => e = .returned (.tuple #[]) ∧ (∃ u' hv', St w' B v (vs.set g u') ps sq xs next hv' 0) ∧ Below base w w' ∧ Kept Bp B w w' := by
  obtain ⟨i0, hi, hz0, hz1, hz2⟩ := info_parts info76
  obtain ⟨i1, z1, hj, hj0, hj1, hj2, hj3⟩ := info112
  have hlt := h.lt
  have HST := hide h
  have HK := hide hk
  have HU := hide hu
  have HUB : ∀ j, u.ownBlock = some j → j < w.heap.size := by
    obtain ⟨ys, _, h2, _⟩ := hk
    exact fun j hj => (own_block h2 hj).2
  have HUB := hide HUB
  clear h hk hu
  go_enter Try.func58, Try.ntmps58
  go_wp2
  go_loopw [] (fun wr => ∃ (n' : Nat) (hv' : Value), n' ≤ v + 1 ∧ St wr B v vs ps sq xs next hv' 0 ∧ wr.ownsRow (w.heap.size + 1) 76 1 hv' n' (nils n') ∧ ClkA wr base Bp B u n ∧ wr.heap[w.heap.size]? = some (.cells #[.int .i64 pos, .int .u8 0, .string name, .bool atm] 99) ∧ Below base w wr ∧ Kept Bp B w wr) (fun wr => v + 1 - histLen wr B)
  case atStart =>
    have hal : Below w.heap.size w (w.alloc (.cells #[.int .i64 pos, .int .u8 0, .string name, .bool atm] 99)) := (Below.refl _ _).alloc (Nat.le_refl _) _
    refine ⟨0, .slice none 0 0, Nat.zero_le _, (unhide HST).on hal, World.ownsRow_nil _ _ _ _, ?_, zn w _, hal.mono (by omega), (Kept.refl _ _ _).below hal (by omega)⟩
    obtain ⟨ys, h1, h2, h3⟩ := unhide HK
    exact ⟨ys, h1, own_below h2 hal (Nat.le_refl _), h3⟩
  case round =>
    obtain ⟨n', hv', hle, hst, hhist, hclk, hbox, hbel, hkp⟩ := hrel
    have HKP := hide hkp
    clear hkp
    obtain ⟨ph, ch, rfl⟩ := slice_of hhist
    have m2 := hst.mod.cells.2.2.1
    have mf2 := hst.mod.free 2
    have hlt' := hst.lt
    have hbl := (Array.getElem?_eq_some_iff.1 hbox).1
    by_cases hle2 : n' ≤ v
    · have HSTR := hide hst
      have HH := hide hhist
      have HCLK := hide hclk
      have HBOX := hide hbox
      have HBEL := hide hbel
      clear hst hhist hclk hbox hbel
      go_wp2_with (first
        | (at_builtin; refine append_shape _ rfl _ _ 69 rfl (w.heap.size + 1) 76 i0 (.slice none 0 0) 1 24 Try.underlying69 hi hz0 hz1 hz2 rfl (by decide) _ _ _ rfl ((unhide HH).alloc _) ⟨wr.heap.size, 0, none⟩ 1 1 [.slice none 0 0] rfl rfl (World.news_of_block (cs := #[.slice none 0 0]) (zn wr _)) (fun z hz => by simp at hz; subst hz; rfl) (by unfold maxLen; omega) (by omega) (by simp; omega) (by decide) ?_; intro g2 cap2 w1 hg2 hcap2 hown2 hgrow2 hat2; have hgr := grown_alloc_row (row := (Value.slice ph n' ch).ownBlock) hgrow2; have hS1 := (unhide HSTR).grown hgr (fun i h1 h2 e => by have := (own_block (unhide HH) e.symm).1; omega); have m2' := hS1.mod.cells.2.2.1; have mf2' := hS1.mod.free 2; have HGR := hide hgr; have HS1 := hide hS1; have HO2 := hide hown2; clear hgr hS1 hown2 hgrow2 hat2))
      go_roundw
      case rel =>
        have hrow : ∀ j, some j = (Value.slice ph n' ch).ownBlock → w.heap.size + 1 ≤ j := fun j hj => (own_block (unhide HH) hj.symm).1
        have hC1 := (unhide HCLK).grown (unhide HGR) (fun j hj => .inr (fun e => by have := unhide HUB j e; have := hrow j hj; omega))
        have hgs := grown_set w1 (B + 3) 2 (.slice (some ⟨g2, 0, none⟩) (n' + 1) cap2)
        refine ⟨n' + 1, _, by omega, (unhide HS1).setMod (fun cv sv => mset2 _ _ _ _ _ _), ?_, hC1.grown hgs (fun j hj => .inl (by have := Option.some.inj hj; omega)), ?_, ?_, ?_⟩
        · have := unhide HO2
          rw [nils_snoc] at this
          exact own_grown this hgs (fun j hj e => by have := (own_block this hj).1; have := Option.some.inj e; omega)
        · rw [hgs.block _ (by have := (unhide HGR).size; omega) (by simp; omega), (unhide HGR).block _ (by omega) (fun e => by have := hrow _ e; omega)]
          exact unhide HBOX
        · exact (((unhide HBEL).grown (unhide HGR) (by omega) (fun j hj => by have := hrow j hj.symm; omega))).setCell (by show base ≤ B + 3; omega) _
        · exact ((unhide HKP).grown (unhide HGR) (by omega) (fun j hj => by have := hrow j hj; omega)).set _ (by omega)
      case measure =>
        have e1 : histLen wr B = n' := by simp [histLen, m2]
        have e2 : (w1.setCell ⟨B + 3, 2, none⟩ (.slice (some ⟨g2, 0, none⟩) (n' + 1) cap2)).cell? ⟨B + 3, 2, none⟩ = some (.slice (some ⟨g2, 0, none⟩) (n' + 1) cap2) := World.cell?_setCell_same _ _ _ m2'
        have e3 : histLen (w1.setCell ⟨B + 3, 2, none⟩ (.slice (some ⟨g2, 0, none⟩) (n' + 1) cap2)) B = n' + 1 := by simp [histLen, e2]
        rw [e1, e3]
        omega
    · have hnv : n' = v + 1 := by omega
      subst hnv
      rcases id hhist.2 with ⟨_, h0⟩ | ⟨hb2, cap, cur, e0, hbb, hblk, _⟩
      · omega
      injection e0 with e1 _ e3
      subst e1; subst e3
      obtain ⟨ch1, fh1, hhl⟩ := own_cell hhist (i := v) (u := .slice none 0 0) (by simp [nils])
      have m1 := hst.mod.cells.2.1
      have m13 := hst.mod.cells.2.2.2.2.1
      have mf13 := hst.mod.free 13
      obtain ⟨cg, _⟩ := hst.clock (unhide HU)
      obtain ⟨ys, hyl, hyo, hya⟩ := id hclk
      have HAT := hide (fun W (hW : W.ownsRow base 38 1 u n (ys.map (Value.int .u32))) => at_any base n u ys g W hyl hW (by omega) hg)
      obtain ⟨pu, cu, rfl⟩ := slice_of hyo
      have hgv := (List.getElem?_eq_some_iff.1 (unhide HU)).1
      have x0 := zcell hbox 0
      have x1 := zcell hbox 1
      have x2 := zcell hbox 2
      have x3 := zcell hbox 3
      have HYO := hide hyo
      have HSTR := hide hst
      have HH := hide hhist
      have HCLK := hide hclk
      have HBOX := hide hbox
      have HBEL := hide hbel
      clear hst hhist hclk hbox hbel hyo hblk
      generalize hkk : vs.length = kk at *
      have HKK := hide hkk
      clear hkk
      go_wp2
      have hX : w.heap.size < wr.drew.heap.size := hbl
      have S0 : wr.drew.cell? ⟨w.heap.size, 0, none⟩ = some (.int .i64 pos) ∧ wr.drew.cell? ⟨w.heap.size, 1, none⟩ = some (.int .u8 0) ∧ wr.drew.cell? ⟨w.heap.size, 2, none⟩ = some (.string name) ∧ wr.drew.cell? ⟨w.heap.size, 3, none⟩ = some (.bool atm) := ⟨x0, x1, x2, x3⟩
      go_cut [9] from 36 to 41 (fun s9 wx => s9 = .pointer (some ⟨wr.heap.size, 0, none⟩) ∧ EvW wr g pos name atm wx)
      case first =>
        go_region_held3 (fun w' => w'.cell? ⟨w.heap.size, 0, none⟩ = some (.int .i64 pos) ∧ w'.cell? ⟨w.heap.size, 1, none⟩ = some (.int .u8 0) ∧ w'.cell? ⟨w.heap.size, 2, none⟩ = some (.string name) ∧ w'.cell? ⟨w.heap.size, 3, none⟩ = some (.bool atm))
          (first | with_reducible exact S0 | (refine ⟨(alloc_cell hbl).trans x0, (alloc_cell hbl).trans x1, (alloc_cell hbl).trans x2, (alloc_cell hbl).trans x3⟩))
          (first
            | (go_at_call 62; refine (unhide HAT _ (by first | exact unhide HYO | exact (unhide HYO).alloc _)).mono ?_; rintro e w1 ⟨⟨tt, rfl⟩, rfl⟩))
        all_goals (go_wp2_with fail; go_meet; exact ⟨rfl, ⟨tt, rfl⟩⟩)
      case rest =>
        obtain ⟨rfl, tt, rfl⟩ := hcut
        have hB4 : Below wr.heap.size wr (wr.alloc (.cells #[.int .i64 g, .int .u32 tt, .int .i64 pos, .int .u8 0, .string name, .bool atm] 112)).drew := ((Below.refl _ wr).alloc (Nat.le_refl _) _).drew
        have hE4 : (wr.alloc (.cells #[.int .i64 g, .int .u32 tt, .int .i64 pos, .int .u8 0, .string name, .bool atm] 112)).drew.heap[wr.heap.size]? = some (.cells #[.int .i64 g, .int .u32 tt, .int .i64 pos, .int .u8 0, .string name, .bool atm] 112) := zn wr _
        have hZ4 : (wr.alloc (.cells #[.int .i64 g, .int .u32 tt, .int .i64 pos, .int .u8 0, .string name, .bool atm] 112)).drew.heap.size = wr.heap.size + 1 := by
          show (wr.alloc (.cells #[.int .i64 g, .int .u32 tt, .int .i64 pos, .int .u8 0, .string name, .bool atm] 112)).heap.size = _
          simp
        generalize (wr.alloc (.cells #[.int .i64 g, .int .u32 tt, .int .i64 pos, .int .u8 0, .string name, .bool atm] 112)).drew = W4 at *
        clear S0 x0 x1 x2 x3 m1 m2 m13 mf13 mf2 ch1 fh1 cg
        have hst4 := (unhide HSTR).on hB4
        have hh4 := own_below (unhide HH) hB4 (Nat.le_refl _)
        have m2 := hst4.mod.cells.2.2.1
        have m13 := hst4.mod.cells.2.2.2.2.1
        have mf13 := hst4.mod.free 13
        obtain ⟨ch1, _, _⟩ := own_cell hh4 (i := v) (u := .slice none 0 0) (by simp [nils])
        have hn3 : hb2 ≠ B + 3 := by omega
        have HST4 := hide hst4
        have HH4 := hide hh4
        have HB4 := hide hB4
        have HE4 := hide hE4
        have HZ4 := hide hZ4
        clear hst4 hh4 hB4 hE4 hZ4
        have S5 : W4.drew.cell? ⟨B + 3, 2, none⟩ = some (.slice (some ⟨hb2, 0, none⟩) (v + 1) ch) ∧ W4.drew.cell? ⟨hb2, v, none⟩ = some (.slice none 0 0) ∧ W4.drew.cell? ⟨B + 3, 13, none⟩ = some (.int .i64 0) := ⟨m2, ch1, m13⟩
        go_wp2
        go_region_held3 (fun w' => w'.cell? ⟨B + 3, 2, none⟩ = some (.slice (some ⟨hb2, 0, none⟩) (v + 1) ch) ∧ w'.cell? ⟨hb2, v, none⟩ = some (.slice none 0 0) ∧ w'.cell? ⟨B + 3, 13, none⟩ = some (.int .i64 0))
          (first | with_reducible exact S5 | exact ⟨(drew_cell _ _).trans ((World.cell?_setCell_other _ _ _ _ (by simp)).trans m2), (drew_cell _ _).trans ((setc hn3).trans ch1), (drew_cell _ _).trans (World.cell?_setCell_same _ _ _ m13)⟩)
          (fail)
        have hB5 : Below base w (W4.setCell ⟨B + 3, 13, none⟩ (.int .i64 (IntKind.i64.wrap 0))).drew := ((((unhide HBEL).trans ((unhide HB4).mono (by omega))).setCell (by show base ≤ B + 3; omega) _)).drew
        have hkp5 : Kept Bp B w (W4.setCell ⟨B + 3, 13, none⟩ (.int .i64 (IntKind.i64.wrap 0))).drew := (((unhide HKP).below (unhide HB4) (by omega)).set (b := B + 3) _ (by omega)).below (Below.refl _ _).drew (Nat.le_refl _)
        have hst5 : St (W4.setCell ⟨B + 3, 13, none⟩ (.int .i64 (IntKind.i64.wrap 0))).drew B v vs ps sq xs next (.slice (some ⟨hb2, 0, none⟩) (v + 1) ch) 0 := ((unhide HST4).setMod (fun cv sv => mset13 _ _ _ _ _ _)).on (Below.refl _ _).drew
        have hg5 := grown_set W4 (B + 3) 13 (.int .i64 (IntKind.i64.wrap 0))
        have hh5 : (W4.setCell ⟨B + 3, 13, none⟩ (.int .i64 (IntKind.i64.wrap 0))).drew.ownsRow (w.heap.size + 1) 76 1 (.slice (some ⟨hb2, 0, none⟩) (v + 1) ch) (v + 1) (nils (v + 1)) := own_below (own_grown (unhide HH4) hg5 (fun j hj e => by have := (own_block (unhide HH4) hj).1; have := Option.some.inj e; omega)) (Below.refl _ _).drew (Nat.le_refl _)
        have hE5 : (W4.setCell ⟨B + 3, 13, none⟩ (.int .i64 (IntKind.i64.wrap 0))).drew.heap[wr.heap.size]? = some (.cells #[.int .i64 g, .int .u32 tt, .int .i64 pos, .int .u8 0, .string name, .bool atm] 112) := (hg5.block _ (by have := unhide HZ4; omega) (by simp; omega)).trans (unhide HE4)
        have hk5 : ClkA (W4.setCell ⟨B + 3, 13, none⟩ (.int .i64 (IntKind.i64.wrap 0))).drew base Bp B (.slice pu n cu) n := by
          obtain ⟨ys, h1, h2, h3⟩ := unhide HCLK
          exact ⟨ys, h1, own_below (own_grown (own_below h2 (unhide HB4) (Nat.le_refl _)) hg5 (fun j hj e => by have := h3 j hj; have := Option.some.inj e; omega)) (Below.refl _ _).drew (Nat.le_refl _), h3⟩
        have hz5 : (W4.setCell ⟨B + 3, 13, none⟩ (.int .i64 (IntKind.i64.wrap 0))).drew.heap.size = wr.heap.size + 1 := by
          rw [show (W4.setCell ⟨B + 3, 13, none⟩ (.int .i64 (IntKind.i64.wrap 0))).drew.heap.size = (W4.setCell ⟨B + 3, 13, none⟩ (.int .i64 (IntKind.i64.wrap 0))).heap.size from rfl, show (W4.setCell ⟨B + 3, 13, none⟩ (.int .i64 (IntKind.i64.wrap 0))).heap.size = W4.heap.size by simp [World.setCell]]
          exact unhide HZ4
        clear hg5
        generalize (W4.setCell ⟨B + 3, 13, none⟩ (.int .i64 (IntKind.i64.wrap 0))).drew = W5 at *
        clear S5 m2 m13 mf13 ch1
        have m2 := hst5.mod.cells.2.2.1
        obtain ⟨ch1, fh1, hbl5⟩ := own_cell hh5 (i := v) (u := .slice none 0 0) (by simp [nils])
        have x0 : W5.cell? ⟨wr.heap.size, 0, none⟩ = some (.int .i64 g) := zcell hE5 0
        have x1 : W5.cell? ⟨wr.heap.size, 1, none⟩ = some (.int .u32 tt) := zcell hE5 1
        have x2 : W5.cell? ⟨wr.heap.size, 2, none⟩ = some (.int .i64 pos) := zcell hE5 2
        have x3 : W5.cell? ⟨wr.heap.size, 3, none⟩ = some (.int .u8 0) := zcell hE5 3
        have x4 : W5.cell? ⟨wr.heap.size, 4, none⟩ = some (.string name) := zcell hE5 4
        have x5 : W5.cell? ⟨wr.heap.size, 5, none⟩ = some (.bool atm) := zcell hE5 5
        have hlt5 := hst5.lt
        have m2a : ∀ o, (W5.alloc o).cell? ⟨B + 3, 2, none⟩ = some (.slice (some ⟨hb2, 0, none⟩) (v + 1) ch) := fun o => (alloc_cell (w := W5) (by omega)).trans m2
        have ch1a : ∀ o, (W5.alloc o).cell? ⟨hb2, v, none⟩ = some (.slice none 0 0) := fun o => (alloc_cell hbl5).trans ch1
        have HST5 := hide hst5
        have HH5 := hide hh5
        have HB5 := hide hB5
        have HE5 := hide hE5
        have HK5 := hide hk5
        have HKP5 := hide hkp5
        have HZ5 := hide hz5
        clear hst5 hh5 hB5 hE5 hk5 hz5 hkp5
        clear HST4 HH4 HB4 HE4 HZ4 HYO HSTR HH HCLK HBOX HBEL HAT HK HST HUB
        go_wp2
        refine wp_loop_rounds 1 ?_
        rw [rounds_succ]
        go_wp2
        have HAF : ∀ (w1 : World) (x : Value), W5.grownBy w1 none → St w1 B v vs ps sq xs next (.slice (some ⟨hb2, 0, none⟩) (v + 1) ch) 0 → Aft w base Bp B v n vs ps sq xs next (.slice pu n cu) (w1.setCell ⟨hb2, v, none⟩ x) := by
          intro w1 x hgr hS1
          have hg := grown_set w1 hb2 v x
          refine ⟨_, hS1.grown hg (fun i _ _ e => by have := Option.some.inj e; omega), ((unhide HK5).grown hgr (fun j e => nomatch e)).grown hg (fun j e => .inr (fun e' => by have := HUB j e'; have := Option.some.inj e; omega)), ((unhide HB5).grown hgr (by omega) (fun k e => nomatch e)).setCell (by show base ≤ hb2; omega) x, ((unhide HKP5).grown hgr (by omega) (fun j e => nomatch e)).set _ (by omega)⟩
        have HAF := hide HAF
        go_cut [] from 130 to 145 (fun wx => Aft w base Bp B v n vs ps sq xs next (.slice pu n cu) wx)
        case first =>
          go_region_law (first
            | (refine step_append_lies _ rfl (.tmp 141) (.tmp 143) 76 rfl (w.heap.size + 1) 112 i1 z1 6 56 Try.underlying76 hj hj0 hj1 hj2 hj3 (by decide) (.slice none 0 0) 0 [] rfl (World.ownsRow_nil _ _ _ _) ⟨W5.heap.size, 0, none⟩ 1 1 [.int .i64 g, .int .u32 tt, .int .i64 pos, .int .u8 0, .string name, .bool atm] rfl rfl (World.news_of_block (cs := #[.int .i64 g, .int .u32 tt, .int .i64 pos, .int .u8 0, .string name, .bool atm]) (zn W5 _)) (ev_oneCell _ _ _ _ _) (by decide) (by decide) (by decide) (by simp; omega) _ rfl ?_; intro g2 cap2 w1 hown2 hgrow2 hat2 hlt2; have hgr := grown_drew (grown_alloc_row (w := W5.drew) (row := none) hgrow2); have hS1 := (unhide HST5).grown hgr (fun i _ _ e => nomatch e); have m2' := hS1.mod.cells.2.2.1; have ch1' := (hgr.cell_far ⟨hb2, v, none⟩ hbl5 (by simp)).trans ch1; have fh1' := (hgr.frozen_far ⟨hb2, v, none⟩ hbl5 (by simp)).trans fh1; have HGR := hide hgr; have HS1 := hide hS1; clear hgr hS1 hown2 hgrow2 hat2 hlt2))
          all_goals (go_wp2_with fail; go_meet; exact unhide HAF _ _ (unhide HGR) (unhide HS1))
        case rest =>
          obtain ⟨hv6, hst6, hk6, hb6, hkp6⟩ := hcut
          have HKP6 := hide hkp6
          have HB6 := hide hb6
          have HTI := hide (tick_any base Bp n g _ wc hst6 (unhide HU) hk6 (by omega) hg (by rw [unhide HKK]; exact hk1) hb hBp)
          clear hst6 hk6 hb6 hkp6
          go_wp2_with (first
            | (go_at_call 48; refine (unhide HTI).mono ?_; rintro e w2 ⟨rfl, ⟨u', hs⟩, hb2', hkp2⟩; have HS2 := hide hs; have HB2 := hide hb2'; have HKP2 := hide hkp2; clear hs hb2' hkp2))
          go_end0
          exact ⟨rfl, ⟨u', hv6, unhide HS2⟩, (unhide HB6).trans (unhide HB2), (unhide HKP6).trans (unhide HKP2)⟩
end Go.Proofs.Qxb6615079a
