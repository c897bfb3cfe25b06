/-
  New, zzToClocks, ZZnewModel.
-/
import Derived.Test.Qxb6615079aGrid
namespace Go.Proofs.Qxb6615079a
open Go.RowKit

/-- a model's fourteen cells -/
def mCells (p : Nat) (cv hv sv : Value) (work : Int) : Array Value := #[.pointer (some ⟨p, 0, none⟩), cv, hv, sv, .slice none 0 0, .slice none 0 0, .nilIface, .slice none 0 0, .slice none 0 0, .slice none 0 0, .slice none 0 0, .slice none 0 0, .slice none 0 0, .int .i64 work]

theorem mset1 (p : Nat) (cv hv sv u : Value) (work : Int) : (mCells p cv hv sv work).setIfInBounds 1 u = mCells p u hv sv work := by simp [mCells]
theorem mset2 (p : Nat) (cv hv sv u : Value) (work : Int) : (mCells p cv hv sv work).setIfInBounds 2 u = mCells p cv u sv work := by simp [mCells]
theorem mset3 (p : Nat) (cv hv sv u : Value) (work : Int) : (mCells p cv hv sv work).setIfInBounds 3 u = mCells p cv hv u work := by simp [mCells]
theorem mset13 (p : Nat) (cv hv sv : Value) (work x : Int) : (mCells p cv hv sv work).setIfInBounds 13 (.int .i64 x) = mCells p cv hv sv x := by simp [mCells]

/-- Block m is a model: its races, in block rb, are none; its clocks, history, stores and work. -/
structure Mod (w : World) (m rb : Nat) (cv hv sv : Value) (work : Int) : Prop where
  blk : w.heap[m]? = some (.cells (mCells rb cv hv sv work) 81)
  races : w.heap[rb]? = some (.cells #[.map none] 66)
  rlt : rb < m

theorem Mod.lt {w : World} {m rb : Nat} {cv hv sv : Value} {work : Int} (h : Mod w m rb cv hv sv work) : m < w.heap.size := (Array.getElem?_eq_some_iff.1 h.blk).1
theorem Mod.cells {w : World} {m rb : Nat} {cv hv sv : Value} {work : Int} (h : Mod w m rb cv hv sv work) : w.cell? ⟨m, 0, none⟩ = some (.pointer (some ⟨rb, 0, none⟩)) ∧ w.cell? ⟨m, 1, none⟩ = some cv ∧ w.cell? ⟨m, 2, none⟩ = some hv ∧ w.cell? ⟨m, 3, none⟩ = some sv ∧ w.cell? ⟨m, 13, none⟩ = some (.int .i64 work) ∧ w.cell? ⟨rb, 0, none⟩ = some (.map none) :=
  have k := zcell h.blk
  ⟨k 0, k 1, k 2, k 3, k 13, zcell h.races 0⟩
theorem Mod.free {w : World} {m rb : Nat} {cv hv sv : Value} {work : Int} (h : Mod w m rb cv hv sv work) : ∀ o, w.frozen? ⟨m, o, none⟩ = false := zfree h.blk
/-- the model stays while other blocks turn -/
theorem Mod.keep {w w' : World} {m rb : Nat} {cv hv sv : Value} {work : Int} (h : Mod w m rb cv hv sv work) (h1 : w'.heap[m]? = w.heap[m]?) (h2 : w'.heap[rb]? = w.heap[rb]?) : Mod w' m rb cv hv sv work := ⟨h1.trans h.blk, h2.trans h.races, h.rlt⟩
theorem Mod.on {w w' : World} {m rb B : Nat} {cv hv sv : Value} {work : Int} (h : Mod w m rb cv hv sv work) (hb : Below B w w') (hB : w.heap.size ≤ B) : Mod w' m rb cv hv sv work :=
  have hl := h.lt
  h.keep (hb.block m (by omega)) (hb.block rb (by have := h.rlt; omega))
theorem Mod.grown {w w' : World} {m rb : Nat} {row : Option Nat} {cv hv sv : Value} {work : Int} (h : Mod w m rb cv hv sv work) (hg : w.grownBy w' row) (h1 : some m ≠ row) (h2 : some rb ≠ row) : Mod w' m rb cv hv sv work :=
  have hl := h.lt
  h.keep (hg.block m hl h1) (hg.block rb (by have := h.rlt; omega) h2)
theorem Mod.set {w : World} {m rb : Nat} {cv hv sv : Value} {work : Int} (h : Mod w m rb cv hv sv work) {j : Nat} {u : Value} {cv' hv' sv' : Value} {work' : Int} (he : (mCells rb cv hv sv work).setIfInBounds j u = mCells rb cv' hv' sv' work') :
    Mod (w.setCell ⟨m, j, none⟩ u) m rb cv' hv' sv' work' :=
  ⟨by rw [← he]; exact setSame h.blk, (Below.heap_setCell w ⟨m, j, none⟩ u rb (by have := h.rlt; show rb ≠ m; omega)).trans h.races, h.rlt⟩

theorem new_any (p : Nat) (w : World) :
    Calls Try.prog 45 #[.pointer (some ⟨p, 0, none⟩)] w fun e w' => e = .returned (.pointer (some ⟨w.heap.size + 2, 0, none⟩)) ∧ w' = ((w.alloc (.cells #[.int .u32 0] 38)).alloc (.cells #[.slice (some ⟨w.heap.size, 0, none⟩) 1 1] 71)).alloc (.cells (mCells p (.slice (some ⟨w.heap.size + 1, 0, none⟩) 1 1) (.slice none 0 0) (.slice none 0 0) 0) 81) := by
  go_enter Try.func45, Try.ntmps45
  go_wp2
  go_ret
  exact ⟨rfl, rfl⟩

theorem make67 (k : Nat) (hk : k ≤ 1048576) (W : World) : Sem.run Try.prog (Instr.makeSlice 67 (.int .i64 (k : Int)) (.int .i64 (k : Int))) W =
    .ok (.slice (some ⟨W.heap.size, 0, none⟩) k k) (W.alloc (.cells (madeCells #[.slice none 0 0] k) 71)) := by
  obtain ⟨i0, hi, hz0, hz1, hz2⟩ := info_parts (show (Try.prog.info? 71).map (fun i => (i.zero, i.size, i.bytes)) = some (some (.slice none 0 0), 1, 24) by kernel_rfl)
  have h := run_make W 67 71 i0 (.slice none 0 0) Try.underlying67 hi hz0 .i64 .i64 k k (by omega) (by omega) (by rw [hz2]; omega) (by omega)
  rw [h, hz1]
  simp [Value.cells]

/-- the first j are laid -/
def SameTo (C vs : List Value) (j : Nat) : Prop := ∀ i, i < j → C[i]? = vs[i]?

theorem own_cell {w : World} {base e g n cap : Nat} {xs : List Value} (h : w.ownsRow base e 1 (.slice (some ⟨g, 0, none⟩) n cap) n xs) {i : Nat} {u : Value} (hi : xs[i]? = some u) : w.cell? ⟨g, i, none⟩ = some u ∧ w.frozen? ⟨g, i, none⟩ = false ∧ g < w.heap.size := by
  rcases h.2 with ⟨e0, _⟩ | ⟨g', cap', cur, e0, hb, hg, hn, hm, hs, ht⟩
  · cases e0
  · injection e0 with e1 _ e3
    injection e1 with e1
    injection e1 with e1
    subst e1; subst e3
    refine ⟨?_, zfree hg i, (Array.getElem?_eq_some_iff.1 hg).1⟩
    rw [zcell hg i]
    rw [← ht, List.getElem?_take] at hi
    split at hi
    · rw [Array.getElem?_toList] at hi; exact hi
    · cases hi

set_option maxHeartbeats 1000000 in
set_option maxRecDepth 100000 in
theorem toClocks_any (base : Nat) (v : Value) (vs : List Value) (w : World) (hg : Grid w base v vs) (hl : vs.length ≤ 1048576) :
    Calls Try.prog 46 #[v] w fun e w' => e = .returned (.slice (some ⟨w.heap.size, 0, none⟩) vs.length vs.length) ∧ w' = w.alloc (.cells vs.toArray 71) := by
  obtain ⟨p, c, rfl⟩ := slice_of hg.row
  have HG := hide hg
  clear hg
  generalize hn : vs.length = n at *
  have HN := hide hn
  clear hn
  have hmk := make67 n hl
  have z1 := size_madeCells #[.slice none 0 0] n
  generalize hD : madeCells #[.slice none 0 0] n = D at *
  have HZ := hide z1
  clear hD z1
  go_enter Try.func46, Try.ntmps46
  go_wp2
  clear hmk
  go_loopw [10] (fun t wr => ∃ (j : Nat) (C : List Value), j ≤ n ∧ t = .int .i64 j ∧ C.length = n ∧ SameTo C vs j ∧ wr = w.alloc (.cells C.toArray 71)) (fun t _ => n - (intOf t).toNat)
  case atStart => exact ⟨0, D.toList, Nat.zero_le _, rfl, by have := unhide HZ; simpa using this, fun i hi => by omega, rfl⟩
  case round =>
    obtain ⟨j, C, hj, rfl, hcl, hsm, rfl⟩ := hrel
    have HCL := hide hcl
    have HSM := hide hsm
    clear hcl hsm
    by_cases hlt : j < n
    · obtain ⟨u, hu⟩ : ∃ u, vs[j]? = some u := ⟨_, List.getElem?_eq_getElem (by rw [unhide HN]; exact hlt)⟩
      obtain ⟨ys, hys, hyo⟩ := (unhide HG).each j (by rw [unhide HN]; exact hlt) u hu
      obtain ⟨p1, c1, rfl⟩ := slice_of hyo
      rcases id (unhide HG).row.2 with ⟨_, h0⟩ | ⟨g, cap, cur, e0, hb, hgg, _⟩
      · rw [unhide HN] at h0; omega
      · injection e0 with e1 _ e3
        subst e1; subst e3
        have hrow := (unhide HG).row
        rw [unhide HN] at hrow
        obtain ⟨hcu, _, hglt⟩ := own_cell hrow hu
        have hsC : C.toArray.size = n := by simp [unhide HCL]
        have HU := hide hu
        clear hu hrow hgg hyo
        generalize hCA : C.toArray = CA at *
        go_wp2
        go_roundw
        case rel =>
          refine ⟨j + 1, C.set j (.slice p1 ys.length c1), by omega, by go_num, by rw [List.length_set, unhide HCL], ?_, ?_⟩
          · intro i hi
            by_cases e : i = j
            · subst e
              rw [List.getElem?_set_self (by rw [unhide HCL]; exact hlt), unhide HU]
            · rw [List.getElem?_set_ne (by omega)]
              exact unhide HSM i (by omega)
          · rw [← hCA, List.setIfInBounds_toArray]
        case measure => simp [intOf]; omega
    · have hjn : j = n := by omega
      subst hjn
      have e : C = vs := by
        apply List.ext_getElem?
        intro i
        by_cases hi : i < j
        · exact unhide HSM i hi
        · rw [List.getElem?_eq_none (by rw [unhide HCL]; omega), List.getElem?_eq_none (by rw [unhide HN]; omega)]
      subst e
      go_wp2
      go_ret
      exact ⟨rfl, rfl⟩

set_option maxHeartbeats 1000000 in
set_option maxRecDepth 100000 in
theorem newModel_any (base : Nat) (v : Value) (vs : List Value) (w : World) (hg : Grid w base v vs) (hl : vs.length ≤ 1048576) :
    Calls Try.prog 15 #[v] w fun e w' => e = .returned (.pointer (some ⟨w.heap.size + 3, 0, none⟩)) ∧ Mod w' (w.heap.size + 3) w.heap.size (.slice (some ⟨w.heap.size + 4, 0, none⟩) vs.length vs.length) (.slice none 0 0) (.slice none 0 0) 0 ∧
      w'.heap[w.heap.size + 4]? = some (.cells vs.toArray 71) ∧ w'.heap.size = w.heap.size + 5 ∧ Below w.heap.size w w' := by
  obtain ⟨p, c, rfl⟩ := slice_of hg.row
  have HG := hide hg
  clear hg
  generalize hn : vs.length = n at *
  have HN := hide hn
  clear hn
  go_enter Try.func15, Try.ntmps15
  go_wp2_with fail
  refine (new_any w.heap.size _).mono ?_
  rintro e w1 ⟨rfl, hw1⟩
  rw [show (w.alloc (.cells #[.map none] 66)).heap.size = w.heap.size + 1 by simp] at hw1 ⊢
  have hb1 : Below w.heap.size w w1 := by
    rw [hw1]
    exact ((((Below.refl _ w).alloc (Nat.le_refl _) _).alloc (by simp) _).alloc (by simp; omega) _).alloc (by simp; omega) _
  have hsz : w1.heap.size = w.heap.size + 4 := by rw [hw1]; simp
  have hm : w1.heap[w.heap.size + 3]? = some (.cells (mCells w.heap.size (.slice (some ⟨w.heap.size + 2, 0, none⟩) 1 1) (.slice none 0 0) (.slice none 0 0) 0) 81) := by
    rw [hw1]
    have := zn (((w.alloc (.cells #[.map none] 66)).alloc (.cells #[.int .u32 0] 38)).alloc (.cells #[.slice (some ⟨w.heap.size + 1, 0, none⟩) 1 1] 71)) (.cells (mCells w.heap.size (.slice (some ⟨w.heap.size + 2, 0, none⟩) 1 1) (.slice none 0 0) (.slice none 0 0) 0) 81)
    simpa using this
  have hr : w1.heap[w.heap.size]? = some (.cells #[.map none] 66) := by
    rw [hw1, Below.heap_alloc _ _ _ (by simp; omega), Below.heap_alloc _ _ _ (by simp; omega), Below.heap_alloc _ _ _ (by simp)]
    exact zn w _
  clear hw1
  have zm := zcell hm
  have zmf := zfree hm
  have m1 := zm 1
  have HB1 := hide hb1
  have HM := hide hm
  have HR := hide hr
  have HSZ := hide hsz
  clear hb1 hm hr hsz zm
  go_wp2_with fail
  refine (toClocks_any base (.slice p n c) vs w1 ⟨own_below (unhide HG).row (unhide HB1) (Nat.le_refl _), fun i hi u hu => ((unhide HG).each i hi u hu).on (unhide HB1) (Nat.le_refl _)⟩ (by rw [unhide HN]; exact hl)).mono ?_
  rintro e w2 ⟨rfl, rfl⟩
  rw [unhide HN, unhide HSZ]
  have hlt1 : w.heap.size + 3 < w1.heap.size := by have := unhide HSZ; omega
  simp only [mCells] at m1
  go_wp2
  go_ret
  have hM1 : Mod w1 (w.heap.size + 3) w.heap.size _ _ _ _ := ⟨unhide HM, unhide HR, by omega⟩
  have hM2 := hM1.set (mset1 _ _ _ _ (.slice (some ⟨w.heap.size + 4, 0, none⟩) n n) _)
  have hs2 : (w1.setCell ⟨w.heap.size + 3, 1, none⟩ (.slice (some ⟨w.heap.size + 4, 0, none⟩) n n)).heap.size = w.heap.size + 4 := by rw [← unhide HSZ]; simp [World.setCell]
  have hB2 : Below w.heap.size w (w1.setCell ⟨w.heap.size + 3, 1, none⟩ (.slice (some ⟨w.heap.size + 4, 0, none⟩) n n)) := (unhide HB1).setCell (by show w.heap.size ≤ w.heap.size + 3; omega) _
  refine ⟨rfl, hM2.on ((Below.refl _ _).alloc (Nat.le_refl _) _) (Nat.le_refl _), ?_, ?_, hB2.alloc (by omega) _⟩
  · have := zn (w1.setCell ⟨w.heap.size + 3, 1, none⟩ (.slice (some ⟨w.heap.size + 4, 0, none⟩) n n)) (.cells vs.toArray 71)
    rw [hs2] at this
    exact this
  · simp
    exact unhide HSZ
end Go.Proofs.Qxb6615079a
