/-
  Slices of ints, and slices of slices of uint32, that came in: opened.
-/
import Derived.Test.Qxb6615079aBase
import Derived.Test.Qxb6615079aRows
import Derived.Deep.Slices
import Derived.ProofKit
import Derived.OpenShut
namespace Go.Proofs.Qxb6615079a
open Go.ChangeShapes Go.WideShapes Go.ChangeAt Go.RowKit

theorem own : ownKnob Try.prog.godebug = none := by kernel_rfl
theorem laidOut : laidOutB Try.prog = true := by kernel_rfl
theorem cells23 : Try.prog.cellsOf 23 = 1 := by kernel_rfl
theorem cells38 : Try.prog.cellsOf 38 = 1 := by kernel_rfl
theorem cells3 : Try.prog.cellsOf 3 = 1 := by kernel_rfl

/-- a row of cells, as the walks ask it -/
theorem vrow_of {w : World} {len : Nat} {a : Addr} {f : Nat → Value} (h : ∀ i, i < len → w.cell? (a.add i) = some (f i)) : VRow w (some a) ((List.range len).map f) := by
  by_cases h0 : len = 0
  · left; subst h0; simp
  · right
    obtain ⟨b, off, spot⟩ := a
    have hc0 := h 0 (by omega)
    have hspot : spot = none := by simpa [Addr.add] using World.cell?_spot hc0
    subst hspot
    refine ⟨b, off, rfl, ?_, ?_⟩
    · have := World.block_lt_of_cell? _ _ hc0
      simpa [Addr.add] using this
    · intro i x hx'
      have hi := (List.getElem?_eq_some_iff.1 hx').1
      simp at hi
      rw [List.getElem?_map, List.getElem?_range hi] at hx'
      simp at hx'
      subst hx'
      have := h i hi
      rwa [add_plain] at this

/-- a slice of uint32, from its cell -/
theorem open_inner {H : Type} {enc : TypeId × Value → H} {w : World} {base fuel : Nat} {held : Bool} {cs : List Value} {x : DataW H × List MemPlace}
    (h : DataW.trod enc Try.prog w base (fun _ => true) held fuel 23 cs = some x) :
    ∃ c : In, cs = [c.val] ∧ VRow w c.a (c.xs.map (Value.int .u32)) ∧ (c.a = none → c.xs = [] ∧ c.cap = 0) := by
  rcases Deep.open_slice Try.underlying23 h with ⟨hcs, _⟩ | ⟨a, len, cap, m, n, D, Pl, hcs, _, hl, hm, hmm, _, hx⟩
  · exact ⟨⟨none, [], 0⟩, hcs, .inl rfl, fun _ => ⟨rfl, rfl⟩⟩
  · have hlm : len ≤ m := by rw [hmm]; simp; exact hl
    have each : ∀ i, i < len → ∃ y : Int, w.cell? (a.add i) = some (.int .u32 y) := by
      intro i hi
      obtain ⟨cs', h1, h2⟩ := hx i (by omega)
      rw [cells38] at h1
      obtain ⟨_, hlen, hcell⟩ := World.cells?_some h1
      obtain ⟨y, e, _, _⟩ := DataW.trod_int Try.underlying38 h2
      subst e
      have e0 := hcell 0 (by omega)
      rw [Deep.add_add] at e0
      exact ⟨y, by simpa using e0⟩
    obtain ⟨f, hf⟩ := Deep.choose_lt each
    refine ⟨⟨some a, (List.range len).map f, cap⟩, by rw [hcs]; simp [In.val], ?_, fun e => by cases e⟩
    have := vrow_of (f := fun i => .int .u32 (f i)) hf
    simpa [List.map_map, Function.comp_def] using this

set_option maxRecDepth 100000 in
theorem open_ints51 {H : Type} {enc : TypeId × Value → H} {w : World} {r : Reach} {b0 base : Nat} {held : Bool} {v : Value} {d : DataW H} {p : List MemPlace}
    (hv : Value.okWide Try.prog w r b0 51 v) (h : DataW.Trod enc Try.prog w base (fun _ => true) held 51 v d p) :
    ∃ (a : Option Addr) (xs : List Int) (c : Nat), v = .slice a xs.length c ∧ VRow w a (xs.map (Value.int .i64)) ∧ (a = none → xs = [] ∧ c = 0) ∧ xs.length ≤ 9223372036854775807 := by
  obtain ⟨a0, len, cap, rfl⟩ := okWide_slice Try.underlying51 hv
  obtain ⟨fuel, hf⟩ := h
  rcases Deep.open_slice Try.underlying51 hf with ⟨hcs, _⟩ | ⟨a, len', cap', m, n, D, Pl, hcs, _, hl, hm, hmm, _, hx⟩
  · simp [Value.cells] at hcs
    obtain ⟨rfl, rfl, rfl⟩ := hcs
    exact ⟨none, [], 0, rfl, .inl rfl, fun _ => ⟨rfl, rfl⟩, by simp⟩
  · simp [Value.cells] at hcs
    obtain ⟨rfl, rfl, rfl⟩ := hcs
    have hlm : len ≤ m := by rw [hmm]; simp; exact hl
    have each : ∀ i, i < len → ∃ y : Int, w.cell? (a.add i) = some (.int .i64 y) := by
      intro i hi
      obtain ⟨cs', h1, h2⟩ := hx i (by omega)
      rw [cells3] at h1
      obtain ⟨_, hlen, hcell⟩ := World.cells?_some h1
      obtain ⟨y, e, _, _⟩ := DataW.trod_int Try.underlying3 h2
      subst e
      have e0 := hcell 0 (by omega)
      rw [Deep.add_add] at e0
      exact ⟨y, by simpa using e0⟩
    obtain ⟨f, hf'⟩ := Deep.choose_lt each
    refine ⟨some a, (List.range len).map f, cap, by simp, ?_, (fun e => by cases e), ?_⟩
    · have := vrow_of (f := fun i => .int .i64 (f i)) hf'
      simpa [List.map_map, Function.comp_def] using this
    · simp; unfold maxLen at hm; omega

set_option maxRecDepth 100000 in
theorem open_nest {H : Type} {enc : TypeId × Value → H} {w : World} {r : Reach} {b0 base : Nat} {held : Bool} {v : Value} {d : DataW H} {p : List MemPlace}
    (hv : Value.okWide Try.prog w r b0 22 v) (h : DataW.Trod enc Try.prog w base (fun _ => true) held 22 v d p) :
    ∃ (a : Option Addr) (cs : List In) (c : Nat), v = .slice a cs.length c ∧ NRow w a cs ∧ (a = none → cs = [] ∧ c = 0) ∧ cs.length ≤ 9223372036854775807 := by
  letI : Inhabited In := ⟨⟨none, [], 0⟩⟩
  obtain ⟨a0, len, cap, rfl⟩ := okWide_slice Try.underlying22 hv
  obtain ⟨fuel, hf⟩ := h
  rcases Deep.open_slice Try.underlying22 hf with ⟨hcs, _⟩ | ⟨a, len', cap', m, n, D, Pl, hcs, _, hl, hm, hmm, _, hx⟩
  · simp [Value.cells] at hcs
    obtain ⟨rfl, rfl, rfl⟩ := hcs
    exact ⟨none, [], 0, rfl, ⟨.inl rfl, fun c hc => by cases hc⟩, fun _ => ⟨rfl, rfl⟩, by simp⟩
  · simp [Value.cells] at hcs
    obtain ⟨rfl, rfl, rfl⟩ := hcs
    have hlm : len ≤ m := by rw [hmm]; simp; exact hl
    have each : ∀ i, i < len → ∃ c : In, w.cell? (a.add i) = some c.val ∧ VRow w c.a (c.xs.map (Value.int .u32)) ∧ (c.a = none → c.xs = [] ∧ c.cap = 0) := by
      intro i hi
      obtain ⟨cs', h1, h2⟩ := hx i (by omega)
      rw [cells23] at h1
      obtain ⟨_, hlen, hcell⟩ := World.cells?_some h1
      obtain ⟨c, e, hc1, hc2⟩ := open_inner h2
      subst e
      have e0 := hcell 0 (by omega)
      rw [Deep.add_add] at e0
      exact ⟨c, by simpa using e0, hc1, hc2⟩
    obtain ⟨f, hf'⟩ := Deep.choose_lt each
    refine ⟨some a, (List.range len).map f, cap, by simp, ⟨?_, ?_⟩, (fun e => by cases e), ?_⟩
    · have := vrow_of (f := fun i => (f i).val) (fun i hi => (hf' i hi).1)
      simpa [List.map_map, Function.comp_def] using this
    · intro c hc
      obtain ⟨i, hi, rfl⟩ := List.mem_map.1 hc
      exact (hf' i (by simpa using hi)).2
    · simp; unfold maxLen at hm; omega
end Go.Proofs.Qxb6615079a
