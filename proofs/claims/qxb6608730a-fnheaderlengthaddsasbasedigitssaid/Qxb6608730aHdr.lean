/-
  The contracts of the three functions below the laws: Uint32, length, ZZHeaderLength.
-/
import Derived.Test.Qxb6608730aRows
import Derived.WalkKit
import Derived.WalkSpells
import Derived.RegionTactic
import Derived.Lib.EndianBits
import Derived.Stop.LaidErr
import Derived.Deep.RegionWith
import Derived.Deep.QuietTactic
import Derived.BigQuiet
namespace Go.Proofs.Qxb6608730a
open Go.RowKit

/-- the number that four bytes spell, the greatest first -/
def num4 (a b c d : Int) : Int := d + c * 256 + b * 65536 + a * 16777216

def isB (x : Int) : Prop := 0 ≤ x ∧ x ≤ 255

set_option maxHeartbeats 1000000 in
theorem uint32_any (g o : Nat) (b0 b1 b2 b3 : Int) (w : World) (h0 : 0 ≤ b0 ∧ b0 ≤ 255) (h1 : 0 ≤ b1 ∧ b1 ≤ 255) (h2 : 0 ≤ b2 ∧ b2 ≤ 255) (h3 : 0 ≤ b3 ∧ b3 ≤ 255)
    (c0 : w.cell? ⟨g, o, none⟩ = some (.int .u8 b0)) (c1 : w.cell? ⟨g, o + 1, none⟩ = some (.int .u8 b1)) (c2 : w.cell? ⟨g, o + 2, none⟩ = some (.int .u8 b2)) (c3 : w.cell? ⟨g, o + 3, none⟩ = some (.int .u8 b3)) :
    Calls Try.prog 7 #[.agg #[], .slice (some ⟨g, o, none⟩) 4 4] w fun e w' => e = .returned (.int .u32 (num4 b0 b1 b2 b3)) ∧ Below w.heap.size w w' := by
  have d0 := cell?_alloc_old (.cells #[] 33) c0
  have d1 := cell?_alloc_old (.cells #[] 33) c1
  have d2 := cell?_alloc_old (.cells #[] 33) c2
  have d3 := cell?_alloc_old (.cells #[] 33) c3
  clear c0 c1 c2 c3
  go_enter Try.func7, Try.ntmps7
  go_wp2
  go_region
  go_wp2
  go_ret
  refine ⟨?_, Below.drew ((Below.refl _ w).alloc (Nat.le_refl _) _)⟩
  have e1 : bits BinOp.or IntKind.u32 b3 (b2 * 256) = b3 + b2 * 256 := u32_or8 _ _ (by omega) (by omega) (by omega) (by omega) (by omega)
  have e2 : bits BinOp.or IntKind.u32 (b3 + b2 * 256) (b1 * 65536) = b3 + b2 * 256 + b1 * 65536 := u32_or16 _ _ (by omega) (by omega) (by omega) (by omega) (by omega)
  have e3 : bits BinOp.or IntKind.u32 (b3 + b2 * 256 + b1 * 65536) (b0 * 16777216) = b3 + b2 * 256 + b1 * 65536 + b0 * 16777216 := u32_or24 _ _ (by omega) (by omega) (by omega) (by omega) (by omega)
  rw [e1, e2, e3]
  rfl

set_option maxHeartbeats 1000000 in
/-- '(*header).length': the number that cells 8 to 11 spell. -/
theorem length_any (g : Nat) (b0 b1 b2 b3 : Int) (w : World) (h0 : 0 ≤ b0 ∧ b0 ≤ 255) (h1 : 0 ≤ b1 ∧ b1 ≤ 255) (h2 : 0 ≤ b2 ∧ b2 ≤ 255) (h3 : 0 ≤ b3 ∧ b3 ≤ 255)
    (c0 : w.cell? ⟨g, 8, none⟩ = some (.int .u8 b0)) (c1 : w.cell? ⟨g, 9, none⟩ = some (.int .u8 b1)) (c2 : w.cell? ⟨g, 10, none⟩ = some (.int .u8 b2)) (c3 : w.cell? ⟨g, 11, none⟩ = some (.int .u8 b3)) :
    Calls Try.prog 6 #[.pointer (some ⟨g, 0, none⟩)] w fun e w' => e = .returned (.int .u32 (num4 b0 b1 b2 b3)) ∧ Below w.heap.size w w' := by
  have hc := uint32_any g 8 b0 b1 b2 b3 w.drew h0 h1 h2 h3 c0 c1 c2 c3
  go_enter Try.func6, Try.ntmps6
  go_wp2
  go_region_with (go_at_call 7; refine hc.mono ?_; rintro e w' ⟨rfl, hb⟩)
  go_wp2
  go_ret
  exact ⟨rfl, (Below.refl _ w).drew.trans hb⟩

set_option maxHeartbeats 1000000 in
/-- 'ZZHeaderLength': the number that bytes 8 to 11 spell. -/
theorem hdr_any (a0 a1 a2 a3 a4 a5 a6 a7 b0 b1 b2 b3 : Int) (w : World) (h0 : 0 ≤ b0 ∧ b0 ≤ 255) (h1 : 0 ≤ b1 ∧ b1 ≤ 255) (h2 : 0 ≤ b2 ∧ b2 ≤ 255) (h3 : 0 ≤ b3 ∧ b3 ≤ 255) :
    Calls Try.prog 5 #[.agg #[.int .u8 a0, .int .u8 a1, .int .u8 a2, .int .u8 a3, .int .u8 a4, .int .u8 a5, .int .u8 a6, .int .u8 a7, .int .u8 b0, .int .u8 b1, .int .u8 b2, .int .u8 b3]] w fun e w' => e = .returned (.int .u32 (num4 b0 b1 b2 b3)) ∧ Below w.heap.size w w' := by
  go_enter Try.func5, Try.ntmps5
  go_wp2_with fail
  refine (length_any _ b0 b1 b2 b3 _ h0 h1 h2 h3 (by go_simp) (by go_simp) (by go_simp) (by go_simp)).mono ?_
  rintro e w1 ⟨rfl, hb⟩
  go_wp2
  go_ret
  exact ⟨rfl, ((((Below.refl _ w).alloc (Nat.le_refl _) _).alloc (by simp) _).trans (hb.mono (by simp; omega)))⟩
end Go.Proofs.Qxb6608730a
