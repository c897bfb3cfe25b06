/-
  The store that the laws lay: its map of sessions, each a pointer to a member's block.
-/
import Derived.Test.Qxb6615037aSess
import Derived.Test.Qxb6615037aTime2
import Derived.Maps.Range
import Derived.Maps.RangeWalk
namespace Go.Proofs.Qxb6615037a
open Go.RowKit Go.Maps

/-- How an element of the map of sessions reads: nil, or the number of the block that it points to. -/
def ptrElem : Value → Option (DataW Unit × List MemPlace)
  | .pointer none => some (.nil, [])
  | .pointer (some ⟨b, 0, none⟩) => some (.lit (.int .i64 (b : Int)), [])
  | _ => none

theorem ptrElem_inv {v : Value} {y : DataW Unit × List MemPlace} (h : ptrElem v = some y) : v = .pointer none ∧ y = (.nil, []) ∨ ∃ b : Nat, v = .pointer (some ⟨b, 0, none⟩) ∧ y = (.lit (.int .i64 (b : Int)), []) := by
  unfold ptrElem at h
  split at h
  · cases h; exact .inl ⟨rfl, rfl⟩
  · cases h; exact .inr ⟨_, rfl, rfl⟩
  · cases h

theorem law2 : Keyed Try.prog 2 := int_keyed Try.underlying2

/-- a member's seven cells -/
def memCells (s : Sess) : Array Value := #[.string s.id, .string s.st, .int .u64 (s.exp % 1000000000), .int .i64 (s.exp / 1000000000), .pointer none, .bool s.rep, .int .i64 s.prot]

/-- Block st is a store whose map of sessions, in block mb, holds M. -/
structure Store (w : World) (st mb n : Nat) (D : DataW Unit) (M : Int → Option Sess) : Prop where
  lt : st < w.heap.size
  cell : w.cell? ⟨st, 9, none⟩ = some (.map (some mb))
  own : w.ownsMap Try.prog 2 ptrElem mb n D
  no : ∀ k, M k = none → Maps.has D (.int .i64 k) = false
  yes : ∀ k s, M k = some s → s.num = k ∧ ∃ p : Nat, (∀ zd, D.atKey (.int .i64 k) zd = .lit (.int .i64 (p : Int))) ∧ w.heap[p]? = some (.cells (memCells s) 84)

theorem Store.ne {w : World} {st mb n : Nat} {D : DataW Unit} {M : Int → Option Sess} (h : Store w st mb n D M) : st ≠ mb := by
  intro e
  obtain ⟨es, clock, hb, _⟩ := h.own
  have := h.cell
  rw [e] at this
  simp [World.cell?, hb] at this

/-- the store stays while no old block but other ones turn -/
theorem Store.on {w w' : World} {st mb n : Nat} {D : DataW Unit} {M : Int → Option Sess} (h : Store w st mb n D M) (hb : Below w.heap.size w w') : Store w' st mb n D M := by
  refine ⟨Nat.lt_of_lt_of_le h.lt hb.size, (hb.cell (p := ⟨st, 9, none⟩) h.lt).trans h.cell, ?_, h.no, fun k s hk => ?_⟩
  · exact h.own.kept (row := none) ⟨hb.os, hb.tape, hb.output, hb.size, fun i hi _ => hb.block i hi⟩ (by simp)
  · obtain ⟨h1, p, h2, h3⟩ := h.yes k s hk
    exact ⟨h1, p, h2, (hb.block p (Array.getElem?_eq_some_iff.1 h3).1).trans h3⟩

/-- one session laid over what M holds -/
def upd (M : Int → Option Sess) (s : Sess) : Int → Option Sess := fun k => if k = s.num then some s else M k

theorem Store.laid {w w' : World} {st mb n : Nat} {D : DataW Unit} {M : Int → Option Sess} {s : Sess} (h : Store w st mb n D M) (hw : (Lit.int .i64 s.num).wf = true)
    (hown : w'.ownsMap Try.prog 2 ptrElem mb (n + 1) (D.put (.int .i64 s.num) (.lit (.int .i64 (w.heap.size : Nat)))))
    (hg : (w.alloc (.cells (memCells s) 84)).grownBy w' (some mb)) : Store w' st mb (n + 1) (D.put (.int .i64 s.num) (.lit (.int .i64 (w.heap.size : Nat)))) (upd M s) := by
  have hmap := h.own.isMap
  have hkl : WideAt.IsKeyLit (.int .i64 s.num) := law2.key (keyOf_int_mk Try.underlying2 hw)
  have hsz := hg.size
  simp at hsz
  have old : ∀ i, i < w.heap.size → i ≠ mb → w'.heap[i]? = w.heap[i]? := fun i hi hne =>
    (hg.block i (by simp; omega) (by simpa using hne)).trans (Below.heap_alloc w _ i hi)
  have hmb := h.own.lt
  refine ⟨by have := h.lt; omega, ?_, hown, fun k hk => ?_, fun k t hk => ?_⟩
  · have e := old st h.lt h.ne
    have c := h.cell
    unfold World.cell? at c ⊢
    rw [e]
    exact c
  · unfold upd at hk
    split at hk
    · cases hk
    · rw [has_put_other (by simpa using (by assumption))]
      exact h.no k hk
  · unfold upd at hk
    split at hk
    · rename_i e
      cases hk
      subst e
      refine ⟨rfl, w.heap.size, fun zd => atKey_put_same hmap hkl _ _, ?_⟩
      have := hg.block w.heap.size (by simp) (by simp; omega)
      rw [this]
      show (w.heap.push _)[w.heap.size]? = _
      simp
    · rename_i e
      obtain ⟨h1, p, h2, h3⟩ := h.yes k t hk
      refine ⟨h1, p, fun zd => by rw [atKey_put_other (by simpa using e)]; exact h2 zd, ?_⟩
      rw [old p (Array.getElem?_eq_some_iff.1 h3).1 ?_]
      · exact h3
      · intro e2
        subst e2
        obtain ⟨es, clock, hb, _⟩ := h.own
        rw [hb] at h3
        cases h3

theorem upd_run {w : World} {st mb n : Nat} {D : DataW Unit} {M : Int → Option Sess} {s : Sess} (h : Store w st mb n D M) (hn : n ≤ 100000) (hw : (Lit.int .i64 s.num).wf = true) :
    ∃ w2, Sem.run Try.prog (Instr.mapUpdate 66 (.map (some mb)) (.int .i64 s.num) (.pointer (some ⟨w.heap.size, 0, none⟩))) (w.alloc (.cells #[.string s.id, .string s.st, .int .u64 (s.exp % 1000000000), .int .i64 (s.exp / 1000000000), .pointer none, .bool s.rep, .int .i64 s.prot] 84)) = .ok () w2 ∧
      (∃ D', Store w2 st mb (n + 1) D' (upd M s)) ∧ w.grownBy w2 (some mb) := by
  obtain ⟨w2, hrun, hown, hg⟩ := (h.own.alloc (.cells (memCells s) 84)).update law2 Try.underlying66 (by unfold maxLen; omega) (keyOf_int_mk Try.underlying2 hw) (show ptrElem (.pointer (some ⟨w.heap.size, 0, none⟩)) = some (.lit (.int .i64 (w.heap.size : Int)), []) from rfl)
  refine ⟨w2, hrun, ⟨_, h.laid hw hown hg⟩, ?_⟩
  have hsz := hg.size
  simp at hsz
  exact ⟨hg.os, hg.tape, hg.output, by omega, fun k hk hne => (hg.block k (by simp; omega) hne).trans (Below.heap_alloc w _ k hk)⟩

set_option maxHeartbeats 1000000 in
set_option maxRecDepth 100000 in
theorem addSession_any (st mb n : Nat) (D : DataW Unit) (M : Int → Option Sess) (s : Sess) (w : World) (hS : Store w st mb n D M) (hn : n ≤ 100000) (hw : (Lit.int .i64 s.num).wf = true) (hx : -9223372036854775808 ≤ s.exp ∧ s.exp ≤ 9223372036854775807) :
    Calls Try.prog 17 #[.pointer (some ⟨st, 0, none⟩), .int .i64 s.num, .string s.id, .string s.st, .int .i64 s.exp, .bool s.rep, .int .i64 s.prot] w fun e w' =>
      e = .returned (.tuple #[]) ∧ (∃ D', Store w' st mb (n + 1) D' (upd M s)) ∧ w.grownBy w' (some mb) := by
  have hcell := hS.cell
  have HS := hide hS
  clear hS
  go_enter Try.func17, Try.ntmps17
  go_wp2
  go_region_with (go_at_call 19; refine (instant_any s.exp _ hx).mono ?_; rintro e w1 ⟨rfl, hb1⟩; simp only [T]; have hb1' : Below w.heap.size w w1 := (Below.refl _ w).drew.trans hb1; have hS1 := (unhide HS).on hb1'; have hc1 := hS1.cell; have hlt1 := hS1.lt; obtain ⟨w2, hrun, hS2, hb2⟩ := upd_run hS1 hn hw; have HS1 := hide hS1; have HS2 := hide hS2; clear hS1 hS2)
  all_goals
    go_end0
    exact ⟨rfl, unhide HS2, hb2.os.trans hb1'.os, hb2.tape.trans hb1'.tape, hb2.output.trans hb1'.output, Nat.le_trans hb1'.size hb2.size, fun k hk hne => (hb2.block k (Nat.lt_of_lt_of_le hk hb1'.size) hne).trans (hb1'.block k hk)⟩

/-- what the store's record says of the cluster -/
structure Clus (w : World) (st : Nat) (shards replicas term leader revision made : Int) : Prop where
  c2 : w.cell? ⟨st, 2, none⟩ = some (.int .i64 shards)
  c3 : w.cell? ⟨st, 3, none⟩ = some (.int .i64 replicas)
  c4 : w.cell? ⟨st, 4, none⟩ = some (.int .i64 term)
  c5 : w.cell? ⟨st, 5, none⟩ = some (.int .i64 leader)
  c6 : w.cell? ⟨st, 6, none⟩ = some (.int .i64 revision)
  c7 : w.cell? ⟨st, 7, none⟩ = some (.int .i64 made)

set_option maxHeartbeats 1000000 in
set_option maxRecDepth 100000 in
theorem newStore_any (shards replicas term leader revision made top : Int) (w : World) (h : 0 ≤ shards ∧ shards ≤ 1000000) :
    Calls Try.prog 16 #[.int .i64 shards, .int .i64 replicas, .int .i64 term, .int .i64 leader, .int .i64 revision, .int .i64 made, .int .i64 top] w fun e w' =>
      ∃ st mb D, e = .returned (.pointer (some ⟨st, 0, none⟩)) ∧ Store w' st mb 0 D (fun _ => none) ∧ Clus w' st shards replicas term leader revision made ∧ w.heap.size ≤ mb ∧ w.heap.size ≤ st ∧ Below w.heap.size w w' := by
  have hmm := @run_makeMap Try.prog
  obtain ⟨R, hmk⟩ : ∃ R, ∀ W, Sem.run Try.prog (Instr.makeSlice 68 (.int .i64 shards) (.int .i64 shards)) W = .ok (.slice (some ⟨W.heap.size, 0, none⟩) shards.toNat shards.toNat) (W.alloc (.cells R 164)) := by
    obtain ⟨i0, hi, hz0, hz1, hz2⟩ := info_parts (show (Try.prog.info? 164).map (fun i => (i.zero, i.size, i.bytes)) = some (some (.agg #[.int .i64 0, .string ⟨#[]⟩, .int .i64 0, .int .i64 0, .bool false, .slice none 0 0, .slice none 0 0, .slice none 0 0, .int .i64 0]), 9, 128) by kernel_rfl)
    exact ⟨_, fun W => run_make W 68 164 i0 _ Try.underlying68 hi hz0 .i64 .i64 shards shards h.1 (Int.le_refl _) (by rw [hz2]; omega) (by omega)⟩
  go_enter Try.func16, Try.ntmps16
  go_wp2
  go_ret
  refine ⟨w.heap.size + 1 + 1 + 1 + 1, w.heap.size, .map [], rfl, ?_, ?_, Nat.le_refl _, by omega, ?_⟩
  · refine ⟨by simp, by go_simp, ?_, fun _ _ => rfl, fun _ _ hh => by cases hh⟩
    exact ((((World.ownsMap_made w Try.prog 2 ptrElem).alloc _).alloc _).alloc _).alloc _
  · exact ⟨by go_simp, by go_simp, by go_simp, by go_simp, by go_simp, by go_simp⟩
  · exact (((((Below.refl _ w).alloc (Nat.le_refl _) _).alloc (by simp) _).alloc (by simp; omega) _).alloc (by simp; omega) _).alloc (by simp; omega) _

theorem Clus.grown {w w' : World} {st mb : Nat} {a b c d e f : Int} (h : Clus w st a b c d e f) (hg : w.grownBy w' (some mb)) (hst : st < w.heap.size) (hne : st ≠ mb) : Clus w' st a b c d e f := by
  have k : ∀ q, w'.cell? ⟨st, q, none⟩ = w.cell? ⟨st, q, none⟩ := fun q => World.cell?_of_block (w := w) (hg.block st hst (by simpa using hne))
  exact ⟨(k _).trans h.c2, (k _).trans h.c3, (k _).trans h.c4, (k _).trans h.c5, (k _).trans h.c6, (k _).trans h.c7⟩
theorem Clus.on {w w' : World} {st : Nat} {a b c d e f : Int} (h : Clus w st a b c d e f) (hb : Below w.heap.size w w') (hst : st < w.heap.size) : Clus w' st a b c d e f := by
  have k : ∀ q, w'.cell? ⟨st, q, none⟩ = w.cell? ⟨st, q, none⟩ := fun q => hb.cell (p := ⟨st, q, none⟩) hst
  exact ⟨(k _).trans h.c2, (k _).trans h.c3, (k _).trans h.c4, (k _).trans h.c5, (k _).trans h.c6, (k _).trans h.c7⟩

/-- what the map of sessions holds when the sessions of l have been laid, one behind the other -/
def mapOf (l : List Sess) : Int → Option Sess := l.foldl upd fun _ => none

theorem mapOf_succ {ss : List Sess} {k : Nat} {s : Sess} (h : ss[k]? = some s) : mapOf (ss.take (k + 1)) = upd (mapOf (ss.take k)) s := by
  rw [List.take_add_one, h]
  simp [mapOf]

end Go.Proofs.Qxb6615037a
