/-
  ZZOtherProtocols.
-/
import Derived.Test.Qxb6615037aRead
namespace Go.Proofs.Qxb6615037a
open Go.RowKit Go.Maps

/-- a session as it is handed out -/
def outL (now : Int) (s : Sess) : List Value := [.int .i64 s.num, .string s.id, .string s.st, .bool s.rep, .bool (decide (now < s.exp)), .int .i64 s.prot, .int .i64 s.exp, .int .i64 (s.exp - now), .int .i64 0, .int .i64 0]

theorem outL_len (now : Int) (s : Sess) : (outL now s).length = 10 := rfl

theorem outL_one (now : Int) (s : Sess) : ∀ v ∈ outL now s, v.oneCell' = true := by
  intro v hv
  simp [outL] at hv
  rcases hv with rfl | rfl | rfl | rfl | rfl | rfl | rfl | rfl | rfl <;> rfl

theorem info38 : (Try.prog.info? 38).map (fun i => (i.zero, i.size, i.bytes)) = some (some (.agg #[.int .i64 0, .string ⟨#[]⟩, .string ⟨#[]⟩, .bool false, .bool false, .int .i64 0, .int .i64 0, .int .i64 0, .int .i64 0, .int .i64 0]), 10, 88) := by kernel_rfl

theorem own_lt {w : World} {base e k n : Nat} {v : Value} {xs : List Value} (h : w.ownsRow base e k v n xs) {j : Nat} (hj : some j = v.ownBlock) : j < w.heap.size := by
  rcases h.2 with ⟨rfl, _⟩ | ⟨g, cap, cur, rfl, hb, hg, _⟩
  · cases hj
  · simp [Value.ownBlock] at hj
    rw [hj]
    exact (Array.getElem?_eq_some_iff.1 hg).1

theorem alloc_cell {w : World} {o : Obj} {i c : Nat} (h : i < w.heap.size) : (w.alloc o).cell? ⟨i, c, none⟩ = w.cell? ⟨i, c, none⟩ :=
  World.cell?_of_block (w := w) (Below.heap_alloc w o i h)

theorem rec_cells (now : Int) (s : Sess) (w : World) : (w.alloc (.cells (recCells now s) 63)).cell? ⟨w.heap.size, 0, none⟩ = some (.int .i64 s.num) ∧ (w.alloc (.cells (recCells now s) 63)).cell? ⟨w.heap.size, 1, none⟩ = some (.string s.id) ∧ (w.alloc (.cells (recCells now s) 63)).cell? ⟨w.heap.size, 2, none⟩ = some (.string s.st) ∧
    (w.alloc (.cells (recCells now s) 63)).cell? ⟨w.heap.size, 3, none⟩ = some (.bool s.rep) ∧ (w.alloc (.cells (recCells now s) 63)).cell? ⟨w.heap.size, 4, none⟩ = some (.bool (decide (now < s.exp))) ∧ (w.alloc (.cells (recCells now s) 63)).cell? ⟨w.heap.size, 5, none⟩ = some (.int .i64 s.prot) ∧
    (w.alloc (.cells (recCells now s) 63)).cell? ⟨w.heap.size, 6, none⟩ = some (.int .u64 (s.exp % 1000000000)) ∧ (w.alloc (.cells (recCells now s) 63)).cell? ⟨w.heap.size, 7, none⟩ = some (.int .i64 (s.exp / 1000000000)) ∧ (w.alloc (.cells (recCells now s) 63)).cell? ⟨w.heap.size, 8, none⟩ = some (.pointer none) ∧
    (w.alloc (.cells (recCells now s) 63)).cell? ⟨w.heap.size, 9, none⟩ = some (.int .i64 (s.exp - now)) ∧ (w.alloc (.cells (recCells now s) 63)).cell? ⟨w.heap.size, 10, none⟩ = some (.int .i64 0) ∧ (w.alloc (.cells (recCells now s) 63)).cell? ⟨w.heap.size, 11, none⟩ = some (.int .i64 0) := by
  have h := zcell (zn w (.cells (recCells now s) 63))
  exact ⟨h 0, h 1, h 2, h 3, h 4, h 5, h 6, h 7, h 8, h 9, h 10, h 11⟩

set_option maxHeartbeats 4000000 in
set_option maxRecDepth 100000 in
theorem zz_any (st mb n : Nat) (D : DataW Unit) (M : Int → Option Sess) (now : Int) (w : World) (hS : Store w st mb n D M) (hn : n ≤ 4096) (hnow : -4611686018427387904 < now ∧ now < 4611686018427387904)
    (hexp : ∀ k s, M k = some s → -4611686018427387904 < s.exp ∧ s.exp < 4611686018427387904) :
    Calls Try.prog 12 #[.pointer (some ⟨st, 0, none⟩), .int .i64 now] w fun e w' =>
      ∃ v L, e = .returned (.tuple #[v, .bool true]) ∧ w'.ownsRow w.heap.size 38 10 v L.length (L.flatMap (outL now)) ∧ IsOthers M now L ∧ L.length ≤ 4096 ∧ Below w.heap.size w w' := by
  obtain ⟨i0, hi, hz0, hz1, hz2⟩ := info_parts info38
  have HL := hide (fun W (hW : Below w.heap.size w W) => otherProtocols_any st mb n D M now W (hS.on hW) hn hnow hexp)
  have HEXP := hide hexp
  clear hS hexp
  go_enter Try.func12, Try.ntmps12
  go_wp2_with fail
  refine (instant_any now _ (by omega)).mono ?_
  rintro e w1 ⟨rfl, hb1⟩
  simp only [T]
  have HB1 := hide hb1
  clear hb1
  go_wp2_with fail
  refine (unhide HL _ (unhide HB1)).mono ?_
  rintro e w2 ⟨v, L, rfl, hown, hoth, hlen, hb2⟩
  obtain ⟨p, c, rfl⟩ : ∃ p c, v = .slice p L.length c := by
    rcases hown.2 with ⟨rfl, h0⟩ | ⟨g, cap, cur, rfl, _⟩
    · exact ⟨_, _, by rw [h0]⟩
    · exact ⟨_, _, rfl⟩
  have HBW := hide ((unhide HB1).trans (hb2.mono (unhide HB1).size))
  have HO := hide hown
  have HOTH := hide hoth
  clear hown hoth hb2 HB1
  have HE : ∀ (k : Nat) (s : Sess), L[k]? = some s → -4611686018427387904 < s.exp ∧ s.exp < 4611686018427387904 := by
    intro k s hk
    have := ((unhide HOTH).mem s).1 (List.mem_of_getElem? hk)
    exact unhide HEXP _ _ this.1
  have HE := hide HE
  generalize hN : L.length = N at *
  have HN := hide hN
  clear hN
  go_wp2
  go_loopw [8, 21] (fun v t wr => ∃ k : Nat, k ≤ N ∧ t = .int .i64 k ∧ wr.ownsRow w2.heap.size 38 10 v k ((L.take k).flatMap (outL now)) ∧ Below w2.heap.size w2 wr) (fun _ t _ => N - (intOf t).toNat)
  case atStart => exact ⟨0, Nat.zero_le _, rfl, World.ownsRow_nil _ _ _ _, Below.refl _ _⟩
  case round =>
    obtain ⟨k, hk, rfl, hown, hbel⟩ := hrel
    by_cases hlt : k < N
    · obtain ⟨s, hs⟩ : ∃ s, L[k]? = some s := ⟨_, List.getElem?_eq_getElem (by rw [unhide HN]; exact hlt)⟩
      have hoi := ownsRow_below (unhide HO) hbel (Nat.le_refl _)
      rcases hoi.2 with ⟨_, h0⟩ | ⟨g, cap, cur, e0, hgb, hgg, _⟩
      · omega
      · injection e0 with e1 e2 e3
        subst e1; subst e3
        obtain ⟨c0, c1, c2, c3, c4, c5, c6, c7, c8, c9, c10, c11⟩ := own_cells hoi hs
        have hglt := (Array.getElem?_eq_some_iff.1 hgg).1
        have hex := unhide HE k s hs
        clear hoi hgg
        have HSUB : ∀ W, Calls Try.prog 21 #[.agg #[.int .u64 (s.exp % 1000000000), .int .i64 (s.exp / 1000000000), .pointer none], .agg #[.int .u64 0, .int .i64 0, .pointer none]] W fun e w' => e = .returned (.int .i64 s.exp) ∧ Below W.heap.size W w' := by
          intro W
          have h := sub_any (s.exp % 1000000000) (s.exp / 1000000000) 0 0 W (by omega) (by omega) (by omega) (by omega) (by omega)
          rw [show 1000000000 * (s.exp / 1000000000 - 0) + (s.exp % 1000000000 - 0) = s.exp from by omega] at h
          exact h
        have HSUB := hide HSUB
        have HOWN := hide hown
        have HBEL := hide hbel
        have hsz := hbel.size
        have HS := hide hs
        clear hown hbel hs
        go_wp2
        clear c0 c1 c2 c3 c4 c5 c6 c7 c8 c9 c10 c11
        have HW0 := hide (rec_cells now s wr)
        obtain ⟨q0, q1, q2, q3, q4, q5, q6, q7, q8, q9, q10, q11⟩ := rec_cells now s wr
        have HA := hide ((unhide HBEL).alloc hsz (.cells (recCells now s) 63))
        have HAO := hide ((unhide HOWN).alloc (.cells (recCells now s) 63))
        have hsz0 : (wr.alloc (.cells (recCells now s) 63)).heap.size = wr.heap.size + 1 := by simp
        simp only [recCells] at q0 q1 q2 q3 q4 q5 q6 q7 q8 q9 q10 q11 HA HAO hsz0
        generalize hW : wr.alloc (.cells #[.int .i64 s.num, .string s.id, .string s.st, .bool s.rep, .bool (decide (now < s.exp)), .int .i64 s.prot, .int .u64 (s.exp % 1000000000), .int .i64 (s.exp / 1000000000), .pointer none, .int .i64 (s.exp - now), .int .i64 0, .int .i64 0] 63) = W0 at *
        clear hW
        have HSZ0 := hide hsz0
        clear hsz0
        have hne : some wr.heap.size ≠ u8.ownBlock := fun e => by have := own_lt (unhide HOWN) e; omega
        have S0 : ∀ o, W0.drew.cell? ⟨wr.heap.size, o, none⟩ = W0.cell? ⟨wr.heap.size, o, none⟩ := fun _ => rfl
        go_region_held3 (fun w' => ∀ o, w'.cell? ⟨wr.heap.size, o, none⟩ = W0.cell? ⟨wr.heap.size, o, none⟩)
          (first | with_reducible exact S3 | with_reducible exact S1 | with_reducible exact S0 | exact fun o => (alloc_cell hH3).trans (S1 o))
          (first
            | (go_at_call 21; refine (unhide HSUB _).mono ?_; rintro e w3 ⟨rfl, hb3⟩; have hb3w : Below W0.heap.size W0 w3 := (Below.refl _ W0).drew.trans hb3; clear hb3; have hH3 : wr.heap.size < w3.heap.size := (by have := hb3w.size; have := unhide HSZ0; omega); have S1 : ∀ o, w3.cell? ⟨wr.heap.size, o, none⟩ = W0.cell? ⟨wr.heap.size, o, none⟩ := fun o => hb3w.cell (p := ⟨wr.heap.size, o, none⟩) (by have := unhide HSZ0; show wr.heap.size < _; omega))
            | (refine step_append_lies _ (by rfl) _ _ 30 (by rfl) w2.heap.size 38 i0 _ 10 88 Try.underlying30 hi hz0 hz1 hz2 rfl (by decide) u8 k _ (by rfl) ((ownsRow_below (unhide HAO) hb3w (Nat.le_refl _)).alloc _) ⟨w3.heap.size, 0, none⟩ 1 1 (outL now s) (by rfl) rfl (World.news_of_block (zn w3 _)) (outL_one now s) (by decide) (by unfold maxLen; omega) (by omega) (by simp; omega) _ rfl ?_; intro g2 cap2 w4 hown4 hgrow4 hat4 hlt4; have S3 : ∀ o, w4.cell? ⟨wr.heap.size, o, none⟩ = W0.cell? ⟨wr.heap.size, o, none⟩ := fun o => ((hgrow4.cell_far ⟨wr.heap.size, o, none⟩ (by simp; omega) hne).trans (alloc_cell hH3)).trans (S1 o)))
        have hs3 := hb3w.size
        have hB4 : Below w2.heap.size w2 w4 := (((unhide HA).trans (hb3w.mono (by have := unhide HSZ0; omega))).alloc (by omega) _).grown hgrow4 (by simp; omega) (fun j hj => own_block (unhide HOWN) hj.symm)
        have HB4 := hide hB4
        have HO4 := hide hown4
        clear hB4 hown4 hgrow4 S0 S1 S3 hat4 q0 q1 q2 q3 q4 q5 q6 q7 q8 q9 q10 q11
        go_wp2
        go_roundw
        case rel =>
          refine ⟨k + 1, by omega, by go_num, ?_, unhide HB4⟩
          rw [List.take_add_one, unhide HS, List.flatMap_append]
          simpa using unhide HO4
        case measure => simp [intOf]; omega
    · have hkN : k = N := by omega
      subst hkN
      have HOWN := hide hown
      have HBEL := hide hbel
      clear hown hbel
      go_wp2
      go_quiet (fail)
      go_wp2
      go_ret2
      have hbw := (unhide HBW)
      have hbl := unhide HBEL
      have hbb : Below w.heap.size w wr := hbw.trans (hbl.mono hbw.size)
      refine ⟨_, L, rfl, ?_, unhide HOTH, by rw [unhide HN]; exact hlen, ⟨hbb.os, hbb.tape, hbb.output, hbb.size, hbb.block⟩⟩
      have := unhide HOWN
      rw [List.take_of_length_le (by rw [unhide HN]; exact Nat.le_refl _)] at this
      rw [unhide HN]
      exact ownsRow_mono this hbw.size
end Go.Proofs.Qxb6615037a
