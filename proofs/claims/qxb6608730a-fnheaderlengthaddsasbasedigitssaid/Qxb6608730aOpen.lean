/-
  An array of bytes that came in by value, opened.
-/
import Derived.Test.Qxb6608730aRows
import Derived.WalkKit
import Derived.ProofKit
import Derived.OpenShut
namespace Go.Proofs.Qxb6608730a
open Go.ChangeShapes Go.WideShapes Go.ChangeAt Go.RowKit

def numAt : Option Value → Int
  | some (.int _ z) => z
  | _ => 0

theorem open_array_u8 {H : Type} {enc : TypeId × Value → H} {P : Program} {w : World} {r : Reach} {b0 base : Nat} {spare : Nat → Bool} {held : Bool} {t e n : Nat} {v : Value} {d : DataW H} {p : List MemPlace}
    (ht : P.underlying t = some (.array n e)) (he : P.underlying e = some (.int .u8)) (hce : P.cellsOf e = 1) (hct : P.cellsOf t = n)
    (hv : Value.okWide P w r b0 t v) (h : DataW.Trod enc P w base spare held t v d p) :
    ∃ f : Nat → Int, v = .agg (Array.ofFn fun i : Fin n => .int .u8 (f i)) ∧ ∀ i, i < n → 0 ≤ f i ∧ f i ≤ 255 := by
  unfold Value.okWide at hv
  rw [ht] at hv
  obtain ⟨cs, rfl, hsz, _⟩ := hv
  obtain ⟨fuel, hf⟩ := h
  obtain ⟨xs, m, _, _, hl, hxl, hx⟩ := DataW.trod_array ht hf
  have key : ∀ i, i < n → ∃ z : Int, cs[i]? = some (.int .u8 z) ∧ 0 ≤ z ∧ z ≤ 255 := by
    intro i hi
    have h1 := hx i hi
    rw [hce, List.getElem?_eq_getElem (by omega)] at h1
    obtain ⟨z, e0, _, wz⟩ := DataW.trod_int he h1
    refine ⟨z, ?_, bounds_u8 wz⟩
    have e1 := congrArg (fun l : List Value => l[0]?) e0
    simpa [Value.cells] using e1
  refine ⟨fun i => numAt cs[i]?, ?_, ?_⟩
  · congr 1
    apply Array.ext
    · simp [hsz, hct]
    · intro i h1 h2
      obtain ⟨z, hz, _⟩ := key i (by omega)
      have h3 : cs[i] = .int .u8 z := by
        rw [Array.getElem?_eq_getElem h1] at hz
        exact Option.some.inj hz
      simp [hz, h3, numAt]
  · intro i hi
    obtain ⟨z, hz, hb⟩ := key i hi
    simpa [hz, numAt] using hb

theorem open12 {H : Type} {enc : TypeId × Value → H} {w : World} {r : Reach} {b0 base : Nat} {spare : Nat → Bool} {held : Bool} {v : Value} {d : DataW H} {p : List MemPlace}
    (hv : Value.okWide Try.prog w r b0 22 v) (h : DataW.Trod enc Try.prog w base spare held 22 v d p) :
    ∃ f : Nat → Int, v = .agg #[.int .u8 (f 0), .int .u8 (f 1), .int .u8 (f 2), .int .u8 (f 3), .int .u8 (f 4), .int .u8 (f 5), .int .u8 (f 6), .int .u8 (f 7), .int .u8 (f 8), .int .u8 (f 9), .int .u8 (f 10), .int .u8 (f 11)] ∧ ∀ i, i < 12 → 0 ≤ f i ∧ f i ≤ 255 := by
  obtain ⟨f, hf, hb⟩ := open_array_u8 Try.underlying22 Try.underlying5 (by kernel_rfl) (by kernel_rfl) hv h
  exact ⟨f, hf, hb⟩

theorem open8 {H : Type} {enc : TypeId × Value → H} {w : World} {r : Reach} {b0 base : Nat} {spare : Nat → Bool} {held : Bool} {v : Value} {d : DataW H} {p : List MemPlace}
    (hv : Value.okWide Try.prog w r b0 26 v) (h : DataW.Trod enc Try.prog w base spare held 26 v d p) :
    ∃ f : Nat → Int, v = .agg #[.int .u8 (f 0), .int .u8 (f 1), .int .u8 (f 2), .int .u8 (f 3), .int .u8 (f 4), .int .u8 (f 5), .int .u8 (f 6), .int .u8 (f 7)] ∧ ∀ i, i < 8 → 0 ≤ f i ∧ f i ≤ 255 := by
  obtain ⟨f, hf, hb⟩ := open_array_u8 Try.underlying26 Try.underlying5 (by kernel_rfl) (by kernel_rfl) hv h
  exact ⟨f, hf, hb⟩

theorem own : ownKnob Try.prog.godebug = none := by kernel_rfl
theorem laidOut : laidOutB Try.prog = true := by kernel_rfl
end Go.Proofs.Qxb6608730a
