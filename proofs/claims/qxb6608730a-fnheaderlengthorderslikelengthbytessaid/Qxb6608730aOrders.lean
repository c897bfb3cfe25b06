/-
  FnHeaderLengthOrdersLikeLengthBytes: the walk and the row.
-/
import Derived.Test.Qxb6608730aHdr
import Derived.LoopTactic
namespace Go.Proofs.Qxb6608730a.orders
open Go.RowKit

theorem keep2 {w w1 : World} {c1 c2 : Array Value} {t1 t2 n : Nat} (hb : Below (((w.alloc (.cells c1 t1)).alloc (.cells c2 t2)).drewN n).heap.size (((w.alloc (.cells c1 t1)).alloc (.cells c2 t2)).drewN n) w1) :
    ∀ o, w1.cell? ⟨w.heap.size + 1, o, none⟩ = c2[o]? := by
  intro o
  rw [hb.cell (p := ⟨w.heap.size + 1, o, none⟩) (by simp)]
  have e : (((w.alloc (.cells c1 t1)).alloc (.cells c2 t2)).drewN n).heap[w.heap.size + 1]? = some (.cells c2 t2) := by
    show ((w.heap.push _).push _)[w.heap.size + 1]? = _
    rw [Array.getElem?_push, if_pos (by simp)]
  unfold World.cell?
  rw [e]
  rfl

theorem hide {p : Prop} (h : p) : Hid p := h
theorem unhide {p : Prop} (h : Hid p) : p := h

theorem closed {w w1 w2 : World} {c1 c2 : Array Value} {t1 t2 n : Nat} (hb : Below (((w.alloc (.cells c1 t1)).alloc (.cells c2 t2)).drewN n).heap.size (((w.alloc (.cells c1 t1)).alloc (.cells c2 t2)).drewN n) w1)
    (hb2 : Below w1.heap.size w1 w2) : Below w.heap.size w w2 := by
  have h1 : Below w.heap.size w (((w.alloc (.cells c1 t1)).alloc (.cells c2 t2)).drewN n) := ⟨rfl, rfl, rfl, by simp; omega, fun k hk => by
    rw [World.heap_drewN, Below.heap_alloc _ _ _ (by simp; omega), Below.heap_alloc _ _ _ hk]⟩
  have h2 := hb.size
  simp at h2
  exact (h1.trans (hb.mono (by simp; omega))).trans (hb2.mono (by omega))

theorem ret_true {b : Bool} (h : b = true) : Ending.returned (.bool b) = .returned (.bool true) := by rw [h]

set_option maxHeartbeats 1000000 in
theorem walk (x0 x1 x2 x3 x4 x5 x6 x7 a b c d : Int) (y0 y1 y2 y3 y4 y5 y6 y7 p q r s : Int) (w : World)
    (ha : 0 ≤ a ∧ a ≤ 255) (hb : 0 ≤ b ∧ b ≤ 255) (hc : 0 ≤ c ∧ c ≤ 255) (hd : 0 ≤ d ∧ d ≤ 255)
    (hp : 0 ≤ p ∧ p ≤ 255) (hq : 0 ≤ q ∧ q ≤ 255) (hr : 0 ≤ r ∧ r ≤ 255) (hs : 0 ≤ s ∧ s ≤ 255) :
    Calls Try.prog 3 #[.agg #[.int .u8 x0, .int .u8 x1, .int .u8 x2, .int .u8 x3, .int .u8 x4, .int .u8 x5, .int .u8 x6, .int .u8 x7, .int .u8 a, .int .u8 b, .int .u8 c, .int .u8 d],
      .agg #[.int .u8 y0, .int .u8 y1, .int .u8 y2, .int .u8 y3, .int .u8 y4, .int .u8 y5, .int .u8 y6, .int .u8 y7, .int .u8 p, .int .u8 q, .int .u8 r, .int .u8 s]] w
      fun e w' => e = .returned (.bool true) ∧ Below w.heap.size w w' := by
  go_enter Try.func3, Try.ntmps3
  go_wp2
  go_loopw [5, 6] (fun cc i wr => (∃ n, wr = (World.drewN ((w.alloc (.cells #[.int .u8 x0, .int .u8 x1, .int .u8 x2, .int .u8 x3, .int .u8 x4, .int .u8 x5, .int .u8 x6, .int .u8 x7, .int .u8 a, .int .u8 b, .int .u8 c, .int .u8 d] 22)).alloc (.cells #[.int .u8 y0, .int .u8 y1, .int .u8 y2, .int .u8 y3, .int .u8 y4, .int .u8 y5, .int .u8 y6, .int .u8 y7, .int .u8 p, .int .u8 q, .int .u8 r, .int .u8 s] 22)) n)) ∧ cc = .int .i64 0 ∧
      (i = .int .i64 8 ∨ (i = .int .i64 9 ∧ a = p) ∨ (i = .int .i64 10 ∧ a = p ∧ b = q) ∨ (i = .int .i64 11 ∧ a = p ∧ b = q ∧ c = r) ∨ (i = .int .i64 12 ∧ a = p ∧ b = q ∧ c = r ∧ d = s))) (fun _ i _ => 12 - (intOf i).toNat)
  case atStart => exact ⟨⟨0, rfl⟩, rfl, .inl rfl⟩
  case round =>
    obtain ⟨⟨n, rfl⟩, rfl, h⟩ := hrel
    rcases h with rfl | ⟨rfl, e1⟩ | ⟨rfl, e1, e2⟩ | ⟨rfl, e1, e2, e3⟩ | ⟨rfl, e1, e2, e3, e4⟩
    · rcases Int.lt_trichotomy a p with lt | eq | gt
      · have hne : (a != p) = true := by rw [bne_iff_ne]; omega
        go_wp2
        go_quiet (fail)
        go_wp2
        go_quiet (fail)
        go_wp2_with fail
        refine (hdr_any _ _ _ _ _ _ _ _ a b c d _ ha hb hc hd).mono ?_
        rintro e w1 ⟨rfl, hb1⟩
        have hk := keep2 hb1
        go_wp2_with fail
        refine (hdr_any _ _ _ _ _ _ _ _ p q r s _ hp hq hr hs).mono ?_
        rintro e w2 ⟨rfl, hb2⟩
        go_wp2
        go_ret
        exact ⟨ret_true (by first | (rw [decide_eq_true_iff]; unfold num4; omega) | (rw [beq_iff_eq]; unfold num4; omega)), closed hb1 hb2⟩
      · have hne : (a != p) = false := by simp [eq]
        have E := hide eq; clear eq
        go_wp2
        go_quiet (fail)
        go_wp2
        go_roundw
        case rel => exact ⟨⟨_, rfl⟩, rfl, .inr (.inl ⟨rfl, unhide E⟩)⟩
        case measure => simp [intOf]
      · have hne : (a != p) = true := by rw [bne_iff_ne]; omega
        have hnl : ¬ a < p := by omega
        go_wp2
        go_quiet (fail)
        go_wp2
        go_quiet (fail)
        go_wp2_with fail
        refine (hdr_any _ _ _ _ _ _ _ _ a b c d _ ha hb hc hd).mono ?_
        rintro e w1 ⟨rfl, hb1⟩
        have hk := keep2 hb1
        go_wp2_with fail
        refine (hdr_any _ _ _ _ _ _ _ _ p q r s _ hp hq hr hs).mono ?_
        rintro e w2 ⟨rfl, hb2⟩
        go_wp2
        go_ret
        exact ⟨ret_true (by first | (rw [decide_eq_true_iff]; unfold num4; omega) | (rw [beq_iff_eq]; unfold num4; omega)), closed hb1 hb2⟩
    · have E1 := hide e1; clear e1
      rcases Int.lt_trichotomy b q with lt | eq | gt
      · have hne : (b != q) = true := by rw [bne_iff_ne]; omega
        go_wp2
        go_quiet (fail)
        go_wp2
        go_quiet (fail)
        go_wp2_with fail
        refine (hdr_any _ _ _ _ _ _ _ _ a b c d _ ha hb hc hd).mono ?_
        rintro e w1 ⟨rfl, hb1⟩
        have hk := keep2 hb1
        go_wp2_with fail
        refine (hdr_any _ _ _ _ _ _ _ _ p q r s _ hp hq hr hs).mono ?_
        rintro e w2 ⟨rfl, hb2⟩
        go_wp2
        go_ret
        exact ⟨ret_true (by have f1 := unhide E1; first | (rw [decide_eq_true_iff]; unfold num4; omega) | (rw [beq_iff_eq]; unfold num4; omega)), closed hb1 hb2⟩
      · have hne : (b != q) = false := by simp [eq]
        have E := hide eq; clear eq
        go_wp2
        go_quiet (fail)
        go_wp2
        go_roundw
        case rel => exact ⟨⟨_, rfl⟩, rfl, .inr (.inr (.inl ⟨rfl, unhide E1, unhide E⟩))⟩
        case measure => simp [intOf]
      · have hne : (b != q) = true := by rw [bne_iff_ne]; omega
        have hnl : ¬ b < q := by omega
        go_wp2
        go_quiet (fail)
        go_wp2
        go_quiet (fail)
        go_wp2_with fail
        refine (hdr_any _ _ _ _ _ _ _ _ a b c d _ ha hb hc hd).mono ?_
        rintro e w1 ⟨rfl, hb1⟩
        have hk := keep2 hb1
        go_wp2_with fail
        refine (hdr_any _ _ _ _ _ _ _ _ p q r s _ hp hq hr hs).mono ?_
        rintro e w2 ⟨rfl, hb2⟩
        go_wp2
        go_ret
        exact ⟨ret_true (by have f1 := unhide E1; first | (rw [decide_eq_true_iff]; unfold num4; omega) | (rw [beq_iff_eq]; unfold num4; omega)), closed hb1 hb2⟩
    · have E1 := hide e1; clear e1
      have E2 := hide e2; clear e2
      rcases Int.lt_trichotomy c r with lt | eq | gt
      · have hne : (c != r) = true := by rw [bne_iff_ne]; omega
        go_wp2
        go_quiet (fail)
        go_wp2
        go_quiet (fail)
        go_wp2_with fail
        refine (hdr_any _ _ _ _ _ _ _ _ a b c d _ ha hb hc hd).mono ?_
        rintro e w1 ⟨rfl, hb1⟩
        have hk := keep2 hb1
        go_wp2_with fail
        refine (hdr_any _ _ _ _ _ _ _ _ p q r s _ hp hq hr hs).mono ?_
        rintro e w2 ⟨rfl, hb2⟩
        go_wp2
        go_ret
        exact ⟨ret_true (by have f1 := unhide E1; have f2 := unhide E2; first | (rw [decide_eq_true_iff]; unfold num4; omega) | (rw [beq_iff_eq]; unfold num4; omega)), closed hb1 hb2⟩
      · have hne : (c != r) = false := by simp [eq]
        have E := hide eq; clear eq
        go_wp2
        go_quiet (fail)
        go_wp2
        go_roundw
        case rel => exact ⟨⟨_, rfl⟩, rfl, .inr (.inr (.inr (.inl ⟨rfl, unhide E1, unhide E2, unhide E⟩)))⟩
        case measure => simp [intOf]
      · have hne : (c != r) = true := by rw [bne_iff_ne]; omega
        have hnl : ¬ c < r := by omega
        go_wp2
        go_quiet (fail)
        go_wp2
        go_quiet (fail)
        go_wp2_with fail
        refine (hdr_any _ _ _ _ _ _ _ _ a b c d _ ha hb hc hd).mono ?_
        rintro e w1 ⟨rfl, hb1⟩
        have hk := keep2 hb1
        go_wp2_with fail
        refine (hdr_any _ _ _ _ _ _ _ _ p q r s _ hp hq hr hs).mono ?_
        rintro e w2 ⟨rfl, hb2⟩
        go_wp2
        go_ret
        exact ⟨ret_true (by have f1 := unhide E1; have f2 := unhide E2; first | (rw [decide_eq_true_iff]; unfold num4; omega) | (rw [beq_iff_eq]; unfold num4; omega)), closed hb1 hb2⟩
    · have E1 := hide e1; clear e1
      have E2 := hide e2; clear e2
      have E3 := hide e3; clear e3
      rcases Int.lt_trichotomy d s with lt | eq | gt
      · have hne : (d != s) = true := by rw [bne_iff_ne]; omega
        go_wp2
        go_quiet (fail)
        go_wp2
        go_quiet (fail)
        go_wp2_with fail
        refine (hdr_any _ _ _ _ _ _ _ _ a b c d _ ha hb hc hd).mono ?_
        rintro e w1 ⟨rfl, hb1⟩
        have hk := keep2 hb1
        go_wp2_with fail
        refine (hdr_any _ _ _ _ _ _ _ _ p q r s _ hp hq hr hs).mono ?_
        rintro e w2 ⟨rfl, hb2⟩
        go_wp2
        go_ret
        exact ⟨ret_true (by have f1 := unhide E1; have f2 := unhide E2; have f3 := unhide E3; first | (rw [decide_eq_true_iff]; unfold num4; omega) | (rw [beq_iff_eq]; unfold num4; omega)), closed hb1 hb2⟩
      · have hne : (d != s) = false := by simp [eq]
        have E := hide eq; clear eq
        go_wp2
        go_quiet (fail)
        go_wp2
        go_roundw
        case rel => exact ⟨⟨_, rfl⟩, rfl, .inr (.inr (.inr (.inr ⟨rfl, unhide E1, unhide E2, unhide E3, unhide E⟩)))⟩
        case measure => simp [intOf]
      · have hne : (d != s) = true := by rw [bne_iff_ne]; omega
        have hnl : ¬ d < s := by omega
        go_wp2
        go_quiet (fail)
        go_wp2
        go_quiet (fail)
        go_wp2_with fail
        refine (hdr_any _ _ _ _ _ _ _ _ a b c d _ ha hb hc hd).mono ?_
        rintro e w1 ⟨rfl, hb1⟩
        have hk := keep2 hb1
        go_wp2_with fail
        refine (hdr_any _ _ _ _ _ _ _ _ p q r s _ hp hq hr hs).mono ?_
        rintro e w2 ⟨rfl, hb2⟩
        go_wp2
        go_ret
        exact ⟨ret_true (by have f1 := unhide E1; have f2 := unhide E2; have f3 := unhide E3; first | (rw [decide_eq_true_iff]; unfold num4; omega) | (rw [beq_iff_eq]; unfold num4; omega)), closed hb1 hb2⟩
    · have E1 := hide e1; clear e1
      have E2 := hide e2; clear e2
      have E3 := hide e3; clear e3
      have E4 := hide e4; clear e4
      go_wp2_with fail
      refine (hdr_any _ _ _ _ _ _ _ _ a b c d _ ha hb hc hd).mono ?_
      rintro e w1 ⟨rfl, hb1⟩
      have hk := keep2 hb1
      go_wp2_with fail
      refine (hdr_any _ _ _ _ _ _ _ _ p q r s _ hp hq hr hs).mono ?_
      rintro e w2 ⟨rfl, hb2⟩
      go_wp2
      go_ret
      exact ⟨ret_true (by have f1 := unhide E1; have f2 := unhide E2; have f3 := unhide E3; have f4 := unhide E4; first | (rw [decide_eq_true_iff]; unfold num4; omega) | (rw [beq_iff_eq]; unfold num4; omega)), closed hb1 hb2⟩
end Go.Proofs.Qxb6608730a.orders
