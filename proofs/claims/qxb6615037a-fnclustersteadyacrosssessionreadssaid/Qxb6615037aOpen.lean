/-
  A slice of sessions that came in, opened.
-/
import Derived.Test.Qxb6615037aZStore
import Derived.Test.Qxb6615037aSort
import Derived.Test.Qxb6615037aRows
import Derived.Deep.Slices
import Derived.ProofKit
import Derived.OpenShut
namespace Go.Proofs.Qxb6615037a
open Go.ChangeShapes Go.WideShapes Go.ChangeAt Go.RowKit

theorem own : ownKnob Try.prog.godebug = none := by kernel_rfl
theorem laidOut : laidOutB Try.prog = true := by kernel_rfl
theorem cells36 : Try.prog.cellsOf 36 = 6 := by kernel_rfl
theorem cells2 : Try.prog.cellsOf 2 = 1 := by kernel_rfl
theorem cells9 : Try.prog.cellsOf 9 = 1 := by kernel_rfl
theorem cells4 : Try.prog.cellsOf 4 = 1 := by kernel_rfl
theorem cells3 : Try.prog.cellsOf 3 = 1 := by kernel_rfl

set_option maxRecDepth 100000 in
/-- one session, from its cells -/
theorem open_one {H : Type} {enc : TypeId × Value → H} {w : World} {base fuel : Nat} {held : Bool} {cs : List Value} {x : DataW H × List MemPlace}
    (h : DataW.trod enc Try.prog w base (fun _ => true) held fuel 36 cs = some x) :
    ∃ s : Sess, cs = [.int .i64 s.num, .string s.id, .string s.st, .int .i64 s.exp, .bool s.rep, .int .i64 s.prot] ∧ (Lit.int .i64 s.num).wf = true ∧ (Lit.int .i64 s.exp).wf = true := by
  obtain ⟨xs, n, _, _, hl, hxl, hf⟩ := DataW.trod_struct Try.underlying36 h
  rw [cells36] at hl
  match cs, hl with
  | [v0, v1, v2, v3, v4, v5], _ =>
    match xs, hxl with
    | [y0, y1, y2, y3, y4, y5], _ =>
      have g0 := hf 0 _ rfl
      have g1 := hf 1 _ rfl
      have g2 := hf 2 _ rfl
      have g3 := hf 3 _ rfl
      have g4 := hf 4 _ rfl
      have g5 := hf 5 _ rfl
      simp [cells2, cells9, cells4, cells3] at g0 g1 g2 g3 g4 g5
      obtain ⟨a0, e0, _, w0⟩ := DataW.trod_int Try.underlying2 g0
      obtain ⟨a1, e1, _, _⟩ := DataW.trod_string Try.underlying9 g1
      obtain ⟨a2, e2, _, _⟩ := DataW.trod_string Try.underlying9 g2
      obtain ⟨a3, e3, _, w3⟩ := DataW.trod_int Try.underlying2 g3
      obtain ⟨a4, e4, _⟩ := DataW.trod_bool Try.underlying4 g4
      obtain ⟨a5, e5, _, _⟩ := DataW.trod_int Try.underlying3 g5
      refine ⟨⟨a0, a1, a2, a3, a4, a5⟩, ?_, w0, w3⟩
      simp_all

theorem wf_range {n : Int} (h : (Lit.int .i64 n).wf = true) : -9223372036854775808 ≤ n ∧ n ≤ 9223372036854775807 := by
  simp [Lit.wf, IntKind.min, IntKind.max, IntKind.bits, IntKind.signed] at h
  omega

set_option maxRecDepth 100000 in
theorem open_sess {H : Type} {enc : TypeId × Value → H} {w : World} {r : Reach} {b0 base : Nat} {held : Bool} {v : Value} {d : DataW H} {p : List MemPlace}
    (hv : Value.okWide Try.prog w r b0 22 v) (h : DataW.Trod enc Try.prog w base (fun _ => true) held 22 v d p) :
    ∃ (a : Option Addr) (ss : List Sess) (c : Nat), v = .slice a ss.length c ∧ SRow w a ss ∧ ss.length ≤ 9223372036854775807 ∧ Fits ss := by
  letI := inhSess
  obtain ⟨a0, len, cap, rfl⟩ := okWide_slice Try.underlying22 hv
  obtain ⟨fuel, hf⟩ := h
  rcases Deep.open_slice Try.underlying22 hf with ⟨hcs, _⟩ | ⟨a, len', cap', m, n, D, Pl, hcs, _, hl, hm, hmm, _, hx⟩
  · simp [Value.cells] at hcs
    obtain ⟨rfl, rfl, rfl⟩ := hcs
    exact ⟨none, [], 0, rfl, .inl rfl, by simp, fun i s hs => by simp at hs⟩
  · simp [Value.cells] at hcs
    obtain ⟨rfl, rfl, rfl⟩ := hcs
    have hlm : len ≤ m := by rw [hmm]; simp; exact hl
    have each : ∀ i, i < len → ∃ s : Sess, (w.cell? (a.add (i * 6)) = some (.int .i64 s.num) ∧ w.cell? (a.add (i * 6 + 1)) = some (.string s.id) ∧ w.cell? (a.add (i * 6 + 2)) = some (.string s.st) ∧ w.cell? (a.add (i * 6 + 3)) = some (.int .i64 s.exp) ∧ w.cell? (a.add (i * 6 + 4)) = some (.bool s.rep) ∧ w.cell? (a.add (i * 6 + 5)) = some (.int .i64 s.prot)) ∧
        (Lit.int .i64 s.num).wf = true ∧ (Lit.int .i64 s.exp).wf = true := by
      intro i hi
      obtain ⟨cs', h1, h2⟩ := hx i (by omega)
      rw [cells36] at h1
      obtain ⟨_, hlen, hcell⟩ := World.cells?_some h1
      obtain ⟨s, rfl, w0, w3⟩ := open_one h2
      refine ⟨s, ?_, w0, w3⟩
      have e0 := hcell 0 (by omega)
      have e1 := hcell 1 (by omega)
      have e2 := hcell 2 (by omega)
      have e3 := hcell 3 (by omega)
      have e4 := hcell 4 (by omega)
      have e5 := hcell 5 (by omega)
      rw [Deep.add_add] at e0 e1 e2 e3 e4 e5
      exact ⟨by simpa using e0, by simpa using e1, by simpa using e2, by simpa using e3, by simpa using e4, by simpa using e5⟩
    obtain ⟨f, hf'⟩ := Deep.choose_lt each
    have e : ((List.range len).map f).length = len := by simp
    refine ⟨some a, (List.range len).map f, cap, by rw [e], ?_, ?_, ?_⟩
    · by_cases h0 : len = 0
      · left; subst h0; simp
      · right
        obtain ⟨b, off, spot⟩ := a
        have hc0 := (hf' 0 (by omega)).1.1
        have hspot : spot = none := by simpa [Addr.add] using World.cell?_spot hc0
        subst hspot
        refine ⟨b, off, rfl, ?_, ?_⟩
        · have := World.block_lt_of_cell? _ _ hc0
          simpa [Addr.add] using this
        · intro i x hx'
          have hi := (List.getElem?_eq_some_iff.1 hx').1
          rw [e] at hi
          rw [List.getElem?_map, List.getElem?_range hi] at hx'
          simp at hx'
          subst hx'
          obtain ⟨⟨c0, c1, c2, c3, c4, c5⟩, _⟩ := hf' i hi
          rw [add_plain] at c0 c1 c2 c3 c4 c5
          exact ⟨by simpa using c0, by simpa [Nat.add_assoc] using c1, by simpa [Nat.add_assoc] using c2, by simpa [Nat.add_assoc] using c3, by simpa [Nat.add_assoc] using c4, by simpa [Nat.add_assoc] using c5⟩
    · rw [e]; unfold maxLen at hm; omega
    · intro i x hx'
      have hi := (List.getElem?_eq_some_iff.1 hx').1
      rw [e] at hi
      rw [List.getElem?_map, List.getElem?_range hi] at hx'
      simp at hx'
      subst hx'
      exact ⟨(hf' i hi).2.1, wf_range (hf' i hi).2.2⟩
end Go.Proofs.Qxb6615037a
