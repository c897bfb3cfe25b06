/-
  FnHeaderLengthAddsAsBaseDigits: the walk.
-/
import Derived.Test.Qxb6608730aHdr
import Derived.LoopTactic
namespace Go.Proofs.Qxb6608730a.adds
open Go.RowKit

theorem ret_true {b : Bool} (h : b = true) : Ending.returned (.bool b) = .returned (.bool true) := by rw [h]

theorem and255 (x : Int) (h0 : 0 ≤ x) (h1 : x < 4294967296) : bits .and .u32 x 255 = x % 256 := by
  rw [u32_and x 255 h0 h1 (by omega) (by omega)]
  have e : (255 : Int).toNat = 2 ^ 8 - 1 := rfl
  rw [e, Nat.and_two_pow_sub_one_eq_mod]
  omega

theorem keep3 {w w1 : World} {c1 c2 c3 : Array Value} {t1 t2 t3 n : Nat} (hb : Below ((((w.alloc (.cells c1 t1)).alloc (.cells c2 t2)).alloc (.cells c3 t3)).drewN n).heap.size ((((w.alloc (.cells c1 t1)).alloc (.cells c2 t2)).alloc (.cells c3 t3)).drewN n) w1) :
    ∀ o, w1.cell? ⟨w.heap.size, o, none⟩ = c1[o]? := by
  intro o
  rw [hb.cell (p := ⟨w.heap.size, o, none⟩) (by simp; omega)]
  have e : ((((w.alloc (.cells c1 t1)).alloc (.cells c2 t2)).alloc (.cells c3 t3)).drewN n).heap[w.heap.size]? = some (.cells c1 t1) := by
    show (((w.heap.push _).push _).push _)[w.heap.size]? = _
    rw [Array.getElem?_push, if_neg (by simp; omega), Array.getElem?_push, if_neg (by simp), Array.getElem?_push, if_pos rfl]
  unfold World.cell?
  rw [e]
  rfl

theorem keep3' {w w1 : World} {c1 c2 c3 : Array Value} {t1 t2 t3 : Nat} (hb : Below (((w.alloc (.cells c1 t1)).alloc (.cells c2 t2)).alloc (.cells c3 t3)).drew.heap.size (((w.alloc (.cells c1 t1)).alloc (.cells c2 t2)).alloc (.cells c3 t3)).drew w1) :
    ∀ o, w1.cell? ⟨w.heap.size, o, none⟩ = c1[o]? := keep3 (n := 1) hb

theorem closed1 {w w1 : World} {c1 c2 c3 : Array Value} {t1 t2 t3 : Nat} (hb : Below (((w.alloc (.cells c1 t1)).alloc (.cells c2 t2)).alloc (.cells c3 t3)).drew.heap.size (((w.alloc (.cells c1 t1)).alloc (.cells c2 t2)).alloc (.cells c3 t3)).drew w1) :
    Below w.heap.size w w1 ∧ w.heap.size ≤ w1.heap.size := by
  have h1 : Below w.heap.size w (((w.alloc (.cells c1 t1)).alloc (.cells c2 t2)).alloc (.cells c3 t3)).drew :=
    ((((Below.refl _ w).alloc (Nat.le_refl _) _).alloc (by simp) _).alloc (by simp; omega) _).drew
  have h2 := hb.size
  simp at h2
  exact ⟨h1.trans (hb.mono (by simp; omega)), by omega⟩

theorem wrap_u32 (x : Int) : IntKind.u32.wrap x = x % 4294967296 := by
  simp [IntKind.wrap, IntKind.signed, IntKind.bits]

theorem sums {a b c d k e f g h m : Int} (he : 0 ≤ e ∧ e ≤ 255) (hf : 0 ≤ f ∧ f ≤ 255) (hg : 0 ≤ g ∧ g ≤ 255) (hh : 0 ≤ h ∧ h ≤ 255)
    (E : d + 256 * c + 65536 * b + 16777216 * a + k = h + 256 * g + 65536 * f + 16777216 * e + 4294967296 * m) :
    (num4 e f g h == IntKind.u32.wrap (num4 a b c d + k)) = true := by
  rw [beq_iff_eq, wrap_u32]
  unfold num4
  omega

set_option maxHeartbeats 1000000 in
theorem walk (x0 x1 x2 x3 x4 x5 x6 x7 a b c d : Int) (y0 y1 y2 y3 y4 y5 y6 y7 k : Int) (w : World)
    (ha : 0 ≤ a ∧ a ≤ 255) (hb : 0 ≤ b ∧ b ≤ 255) (hc : 0 ≤ c ∧ c ≤ 255) (hd : 0 ≤ d ∧ d ≤ 255) (hk : 0 ≤ k ∧ k ≤ 4294967295) :
    Calls Try.prog 4 #[.agg #[.int .u8 x0, .int .u8 x1, .int .u8 x2, .int .u8 x3, .int .u8 x4, .int .u8 x5, .int .u8 x6, .int .u8 x7, .int .u8 a, .int .u8 b, .int .u8 c, .int .u8 d], .agg #[.int .u8 y0, .int .u8 y1, .int .u8 y2, .int .u8 y3, .int .u8 y4, .int .u8 y5, .int .u8 y6, .int .u8 y7], .int .u32 k] w
      fun e w' => e = .returned (.bool true) ∧ Below w.heap.size w w' := by
  go_enter Try.func4, Try.ntmps4
  go_wp2
  go_loopw [8] (fun i wr => ∃ m : Nat, m ≤ 8 ∧ i = .int .i64 m ∧ ∃ g0 g1 g2 g3 g4 g5 g6 g7 g8 g9 g10 g11 : Int, wr = ((w.alloc (.cells #[.int .u8 x0, .int .u8 x1, .int .u8 x2, .int .u8 x3, .int .u8 x4, .int .u8 x5, .int .u8 x6, .int .u8 x7, .int .u8 a, .int .u8 b, .int .u8 c, .int .u8 d] 22)).alloc (.cells #[.int .u8 y0, .int .u8 y1, .int .u8 y2, .int .u8 y3, .int .u8 y4, .int .u8 y5, .int .u8 y6, .int .u8 y7] 26)).alloc (.cells #[.int .u8 g0, .int .u8 g1, .int .u8 g2, .int .u8 g3, .int .u8 g4, .int .u8 g5, .int .u8 g6, .int .u8 g7, .int .u8 g8, .int .u8 g9, .int .u8 g10, .int .u8 g11] 22)) (fun i _ => 8 - (intOf i).toNat)
  case atStart => exact ⟨0, by omega, rfl, 0, 0, 0, 0, 0, 0, 0, 0, 0, 0, 0, 0, rfl⟩
  case round =>
    obtain ⟨m, hm, rfl, g0, g1, g2, g3, g4, g5, g6, g7, g8, g9, g10, g11, rfl⟩ := hrel
    rcases (show m = 0 ∨ m = 1 ∨ m = 2 ∨ m = 3 ∨ m = 4 ∨ m = 5 ∨ m = 6 ∨ m = 7 ∨ m = 8 by omega) with rfl | rfl | rfl | rfl | rfl | rfl | rfl | rfl | rfl
    · go_wp2
      go_roundw
      case rel => exact ⟨1, by omega, by go_num, _, _, _, _, _, _, _, _, _, _, _, _, rfl⟩
      case measure => simp [intOf]
    · go_wp2
      go_roundw
      case rel => exact ⟨2, by omega, by go_num, _, _, _, _, _, _, _, _, _, _, _, _, rfl⟩
      case measure => simp [intOf]
    · go_wp2
      go_roundw
      case rel => exact ⟨3, by omega, by go_num, _, _, _, _, _, _, _, _, _, _, _, _, rfl⟩
      case measure => simp [intOf]
    · go_wp2
      go_roundw
      case rel => exact ⟨4, by omega, by go_num, _, _, _, _, _, _, _, _, _, _, _, _, rfl⟩
      case measure => simp [intOf]
    · go_wp2
      go_roundw
      case rel => exact ⟨5, by omega, by go_num, _, _, _, _, _, _, _, _, _, _, _, _, rfl⟩
      case measure => simp [intOf]
    · go_wp2
      go_roundw
      case rel => exact ⟨6, by omega, by go_num, _, _, _, _, _, _, _, _, _, _, _, _, rfl⟩
      case measure => simp [intOf]
    · go_wp2
      go_roundw
      case rel => exact ⟨7, by omega, by go_num, _, _, _, _, _, _, _, _, _, _, _, _, rfl⟩
      case measure => simp [intOf]
    · go_wp2
      go_roundw
      case rel => exact ⟨8, by omega, by go_num, _, _, _, _, _, _, _, _, _, _, _, _, rfl⟩
      case measure => simp [intOf]
    · go_wp2
      go_loopw [9, 10, 11] (fun cc rr i wr => ∃ g0 g1 g2 g3 g4 g5 g6 g7 g8 g9 g10 g11 cr rs : Int, wr = ((w.alloc (.cells #[.int .u8 x0, .int .u8 x1, .int .u8 x2, .int .u8 x3, .int .u8 x4, .int .u8 x5, .int .u8 x6, .int .u8 x7, .int .u8 a, .int .u8 b, .int .u8 c, .int .u8 d] 22)).alloc (.cells #[.int .u8 y0, .int .u8 y1, .int .u8 y2, .int .u8 y3, .int .u8 y4, .int .u8 y5, .int .u8 y6, .int .u8 y7] 26)).alloc (.cells #[.int .u8 g0, .int .u8 g1, .int .u8 g2, .int .u8 g3, .int .u8 g4, .int .u8 g5, .int .u8 g6, .int .u8 g7, .int .u8 g8, .int .u8 g9, .int .u8 g10, .int .u8 g11] 22) ∧ cc = .int .u32 cr ∧ rr = .int .u32 rs ∧ 0 ≤ cr ∧ cr ≤ 1 ∧ 0 ≤ rs ∧ 
      ((i = .int .i64 11 ∧ rs = k ∧ cr = 0) ∨
       (i = .int .i64 10 ∧ rs ≤ 16777215 ∧ 0 ≤ g11 ∧ g11 ≤ 255 ∧ d + k = g11 + 256 * (cr + rs)) ∨
       (i = .int .i64 9 ∧ rs ≤ 65535 ∧ 0 ≤ g11 ∧ g11 ≤ 255 ∧ 0 ≤ g10 ∧ g10 ≤ 255 ∧ d + 256 * c + k = g11 + 256 * g10 + 65536 * (cr + rs)) ∨
       (i = .int .i64 8 ∧ rs ≤ 255 ∧ 0 ≤ g11 ∧ g11 ≤ 255 ∧ 0 ≤ g10 ∧ g10 ≤ 255 ∧ 0 ≤ g9 ∧ g9 ≤ 255 ∧ d + 256 * c + 65536 * b + k = g11 + 256 * g10 + 65536 * g9 + 16777216 * (cr + rs)) ∨
       (i = .int .i64 7 ∧ 0 ≤ g11 ∧ g11 ≤ 255 ∧ 0 ≤ g10 ∧ g10 ≤ 255 ∧ 0 ≤ g9 ∧ g9 ≤ 255 ∧ 0 ≤ g8 ∧ g8 ≤ 255 ∧ d + 256 * c + 65536 * b + 16777216 * a + k = g11 + 256 * g10 + 65536 * g9 + 16777216 * g8 + 4294967296 * (cr + rs)))) (fun _ _ i _ => (intOf i).toNat)
      case atStart => exact ⟨_, _, _, _, _, _, _, _, _, _, _, _, _, _, rfl, rfl, rfl, by omega, by omega, by omega, .inl ⟨rfl, rfl, rfl⟩⟩
      case round =>
        obtain ⟨g0, g1, g2, g3, g4, g5, g6, g7, g8, g9, g10, g11, cr, rs, rfl, rfl, rfl, hcr0, hcr1, hrs0, hh⟩ := hrel
        rcases hh with ⟨rfl, rfl, rfl⟩ | ⟨rfl, hrs, h11, h11', E⟩ | ⟨rfl, hrs, h11, h11', h10, h10', E⟩ | ⟨rfl, hrs, h11, h11', h10, h10', h9, h9', E⟩ | ⟨rfl, h11, h11', h10, h10', h9, h9', h8, h8', E⟩
        · have hr := and255 rs (by omega) (by omega)
          have hs : bits .and .u32 (d + rs % 256) 255 = (d + rs % 256) % 256 := and255 _ (by omega) (by omega)
          go_wp2
          go_roundw
          case rel => exact ⟨_, _, _, _, _, _, _, _, _, _, _, _, _, _, rfl, rfl, rfl, by omega, by omega, by omega, .inr (.inl ⟨rfl, by omega, by omega, by omega, by omega⟩)⟩
          case measure => simp [intOf]
        · have hr := and255 rs (by omega) (by omega)
          have hs : bits .and .u32 (c + rs % 256 + cr) 255 = (c + rs % 256 + cr) % 256 := and255 _ (by omega) (by omega)
          go_wp2
          go_roundw
          case rel => exact ⟨_, _, _, _, _, _, _, _, _, _, _, _, _, _, rfl, rfl, rfl, by omega, by omega, by omega, .inr (.inr (.inl ⟨rfl, by omega, by omega, by omega, by omega, by omega, by omega⟩))⟩
          case measure => simp [intOf]
        · have hr := and255 rs (by omega) (by omega)
          have hs : bits .and .u32 (b + rs % 256 + cr) 255 = (b + rs % 256 + cr) % 256 := and255 _ (by omega) (by omega)
          go_wp2
          go_roundw
          case rel => exact ⟨_, _, _, _, _, _, _, _, _, _, _, _, _, _, rfl, rfl, rfl, by omega, by omega, by omega, .inr (.inr (.inr (.inl ⟨rfl, by omega, by omega, by omega, by omega, by omega, by omega, by omega, by omega⟩)))⟩
          case measure => simp [intOf]
        · have hr := and255 rs (by omega) (by omega)
          have hs : bits .and .u32 (a + rs % 256 + cr) 255 = (a + rs % 256 + cr) % 256 := and255 _ (by omega) (by omega)
          go_wp2
          go_roundw
          case rel => exact ⟨_, _, _, _, _, _, _, _, _, _, _, _, _, _, rfl, rfl, rfl, by omega, by omega, by omega, .inr (.inr (.inr (.inr ⟨rfl, by omega, by omega, by omega, by omega, by omega, by omega, by omega, by omega, by omega⟩)))⟩
          case measure => simp [intOf]
        · go_wp2
          go_region_with (first | (go_at_call 5; refine (hdr_any _ _ _ _ _ _ _ _ _ _ _ _ _ (by omega) (by omega) (by omega) (by omega)).mono ?_; rintro e w1 ⟨rfl, hb1⟩; try (have hk1 := keep3' hb1; have hcl := closed1 hb1)))
          all_goals
            go_wp2
            go_ret
            exact ⟨ret_true (sums ⟨h8, h8'⟩ ⟨h9, h9'⟩ ⟨h10, h10'⟩ ⟨h11, h11'⟩ E), hcl.1.trans (hb1.mono hcl.2)⟩
end Go.Proofs.Qxb6608730a.adds
