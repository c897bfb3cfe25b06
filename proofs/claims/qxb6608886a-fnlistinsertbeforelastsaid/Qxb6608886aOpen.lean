/-
  A slice of strings that came in, opened; strings.Join's contract as the walks ask it.
-/
import Derived.Test.Qxb6608886aList
import Derived.Test.Qxb6608886aShelf
import Derived.ProofKit
import Derived.OpenShut
import Derived.SliceStrings
namespace Go.Proofs.Qxb6608886a
open Go.ChangeShapes Go.WideShapes Go.ChangeAt Go.RowKit

theorem own : ownKnob Try.prog.godebug = none := by kernel_rfl
theorem laidOut : laidOutB Try.prog = true := by kernel_rfl

theorem joinSaid : JoinSaid := fun bk o c xs sep w h1 h2 h3 h4 h5 => Try.strings_Join bk o c xs sep w h1 h2 h3 h4 h5

theorem open_srow {H : Type} {enc : TypeId × Value → H} {w : World} {r : Reach} {b0 base : Nat} {held : Bool} {v : Value} {d : DataW H} {p : List MemPlace}
    (hv : Value.okWide Try.prog w r b0 26 v) (h : DataW.Trod enc Try.prog w base (fun _ => true) held 26 v d p) :
    ∃ (a : Option Addr) (ss : List ByteArray) (c : Nat), v = .slice a ss.length c ∧ SRow w a ss ∧ ss.length ≤ 9223372036854775807 ∧ (a = none → ss = [] ∧ c = 0) := by
  obtain ⟨a0, len, cap, rfl⟩ := okWide_slice Try.underlying26 hv
  obtain ⟨fuel, hf⟩ := h
  rcases open_strings Try.underlying26 Try.underlying9 (by kernel_rfl) hf with ⟨hcs, _⟩ | ⟨a, len', cap', ss, hcs, _, hl, hm, hz, _, hcell, _⟩
  · simp [Value.cells] at hcs
    obtain ⟨rfl, rfl, rfl⟩ := hcs
    exact ⟨none, [], 0, rfl, .inl rfl, by simp, fun _ => ⟨rfl, rfl⟩⟩
  · simp [Value.cells] at hcs
    obtain ⟨rfl, rfl, rfl⟩ := hcs
    simp only [if_true] at hz
    have e : (ss.take len).length = len := by rw [List.length_take]; omega
    refine ⟨some a, ss.take len, cap, by rw [e], ?_, ?_, fun h => by cases h⟩
    · by_cases h0 : len = 0
      · left; subst h0; simp
      · right
        obtain ⟨b, off, spot⟩ := a
        have hc0 := hcell 0 (by omega)
        have hspot : spot = none := by simpa [Addr.add] using World.cell?_spot hc0
        subst hspot
        refine ⟨b, off, rfl, ?_, ?_⟩
        · have := World.block_lt_of_cell? _ _ hc0
          simpa [Addr.add] using this
        · intro i x hx
          have hi := (List.getElem?_eq_some_iff.1 hx).1
          rw [e] at hi
          rw [List.getElem?_take, if_pos hi] at hx
          have := hcell i (by omega)
          rw [List.getD, hx] at this
          rw [add_plain] at this
          simpa using this
    · rw [e]; unfold maxLen at hm; omega
end Go.Proofs.Qxb6608886a
