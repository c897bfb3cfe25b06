/-
  live: the plain side.
-/
import Derived.Test.Qxb6615037aLive2
import Derived.Test.Qxb6615037aSort
import Derived.Deep.RegionLaw
import Derived.Deep.AppendLies
namespace Go.Proofs.Qxb6615037a
open Go.RowKit Go.Maps

/-- L: those live sessions of M that have come so far, in whatever order -/
structure LiveTo (M : Int → Option Sess) (now : Int) (left : Lit → Bool) (L : List Sess) : Prop where
  mem : ∀ s, s ∈ L ↔ (M s.num = some s ∧ left (.int .i64 s.num) = false ∧ now < s.exp)
  dist : L.Pairwise fun a b => a.num ≠ b.num

theorem Store.has {w : World} {st mb n : Nat} {D : DataW Unit} {M : Int → Option Sess} (h : Store w st mb n D M) {k : Int} {s : Sess} (hk : M k = some s) : Maps.has D (.int .i64 k) = true := by
  obtain ⟨_, p, hat, _⟩ := h.yes k s hk
  exact has_true_of_atKey hat

theorem LiveTo.zero {w : World} {st mb n : Nat} {D : DataW Unit} {M : Int → Option Sess} (h : Store w st mb n D M) (now : Int) : LiveTo M now (Maps.has D) [] := by
  refine ⟨fun s => ⟨fun h => by simp at h, fun ⟨h1, h2, _⟩ => ?_⟩, List.Pairwise.nil⟩
  rw [h.has h1] at h2
  cases h2

theorem left_off (left : Lit → Bool) (x y : Int) : (left (.int .i64 y) && !(Lit.int .i64 y).sameKey (.int .i64 x)) = false ↔ (left (.int .i64 y) = false ∨ y = x) := by
  cases left (Lit.int .i64 y) <;> simp [Lit.sameKey]

theorem LiveTo.skip {M : Int → Option Sess} {now : Int} {left : Lit → Bool} {L : List Sess} (h : LiveTo M now left L) {x : Int} {s : Sess} (hs : M x = some s) (hn : ¬ now < s.exp) :
    LiveTo M now (fun z => left z && !z.sameKey (.int .i64 x)) L := by
  refine ⟨fun t => ?_, h.dist⟩
  rw [h.mem, left_off]
  constructor
  · rintro ⟨h1, h2, h3⟩; exact ⟨h1, .inl h2, h3⟩
  · rintro ⟨h1, h2 | h2, h3⟩
    · exact ⟨h1, h2, h3⟩
    · rw [h2, hs] at h1
      cases h1
      exact absurd h3 hn

theorem LiveTo.add {M : Int → Option Sess} {now : Int} {left : Lit → Bool} {L : List Sess} (h : LiveTo M now left L) {x : Int} {s : Sess} (hs : M x = some s) (hx : s.num = x) (hl : left (.int .i64 x) = true) (hn : now < s.exp) :
    LiveTo M now (fun z => left z && !z.sameKey (.int .i64 x)) (L ++ [s]) := by
  subst hx
  refine ⟨fun t => ?_, ?_⟩
  · rw [List.mem_append, h.mem, left_off, List.mem_singleton]
    constructor
    · rintro (⟨h1, h2, h3⟩ | rfl)
      · exact ⟨h1, .inl h2, h3⟩
      · exact ⟨hs, .inr rfl, hn⟩
    · rintro ⟨h1, h2 | h2, h3⟩
      · exact .inl ⟨h1, h2, h3⟩
      · rw [h2, hs] at h1
        cases h1
        exact .inr rfl
  · rw [List.pairwise_append]
    refine ⟨h.dist, List.pairwise_singleton _ _, fun a ha b hb => ?_⟩
    rw [List.mem_singleton] at hb
    subst hb
    intro e
    have := ((h.mem a).1 ha).2.1
    rw [e, hl] at this
    cases this

/-- L: the live sessions of M by rising number -/
structure IsLive (M : Int → Option Sess) (now : Int) (L : List Sess) : Prop where
  sorted : L.Pairwise fun a b => a.num < b.num
  mem : ∀ s, s ∈ L ↔ (M s.num = some s ∧ now < s.exp)

theorem pairwise_both {α : Type} {p q r : α → α → Prop} (hr : ∀ a b, p a b → q a b → r a b) {L : List α} (h1 : L.Pairwise p) (h2 : L.Pairwise q) : L.Pairwise r := by
  rw [List.pairwise_iff_getElem] at *
  exact fun i j hi hj hij => hr _ _ (h1 i j hi hj hij) (h2 i j hi hj hij)

theorem LiveTo.done {M : Int → Option Sess} {now : Int} {left : Lit → Bool} {L L' : List Sess} (h : LiveTo M now left L) (hl : ∀ kl, left kl = false) (hs : SortedTo L L') : IsLive M now L' := by
  refine ⟨?_, fun s => ?_⟩
  · have hd : L'.Pairwise fun a b => a.num ≠ b.num := (hs.1.pairwise_iff (fun {_ _} hne => Ne.symm hne)).2 h.dist
    exact pairwise_both (fun a b h1 h2 => by omega) hs.2 hd
  · rw [hs.1.mem_iff, h.mem]
    simp [hl]

theorem info63 : (Try.prog.info? 63).map (fun i => (i.zero, i.size, i.bytes)) = some (some (.agg #[.int .i64 0, .string ⟨#[]⟩, .string ⟨#[]⟩, .bool false, .bool false, .int .i64 0, .int .u64 0, .int .i64 0, .pointer none, .int .i64 0, .int .i64 0, .int .i64 0]), 12, 112) := by kernel_rfl

theorem sizeD {w : World} {b n : Nat} {D : DataW Unit} (h : w.ownsMap Try.prog 2 ptrElem b n D) : Maps.size D ≤ n := by
  obtain ⟨es, clock, _, F, hs, rfl⟩ := h
  simp [Maps.size, length_sorted]
  exact hs

theorem ranges_below {w w' : World} {b r n cnt : Nat} {D : DataW Unit} {left : Lit → Bool} {B : Nat} (h : w.ranges Try.prog 2 ptrElem b r n D left cnt) (hb : Below B w w') (hB : w.heap.size ≤ B) : w'.ranges Try.prog 2 ptrElem b r n D left cnt :=
  h.kept (row := none) ⟨hb.os, hb.tape, hb.output, hb.size, fun i hi _ => hb.block i (by omega)⟩ (by simp) (by simp)

theorem ownsRow_below {w w' : World} {base e k n B : Nat} {v : Value} {xs : List Value} (h : w.ownsRow base e k v n xs) (hb : Below B w w') (hB : w.heap.size ≤ B) : w'.ownsRow base e k v n xs := by
  rcases h with ⟨hl, h0 | ⟨g, cap, cur, e0, hbg, hh, r⟩⟩
  · exact ⟨hl, .inl h0⟩
  · exact ⟨hl, .inr ⟨g, cap, cur, e0, hbg, (hb.block g (Nat.lt_of_lt_of_le (Array.getElem?_eq_some_iff.1 hh).1 hB)).trans hh, r⟩⟩

theorem own_grown {w w' : World} {base e k n r : Nat} {v : Value} {xs : List Value} (h : w.ownsRow base e k v n xs) (hg : w.grownBy w' (some r)) (hr : r < base) : w'.ownsRow base e k v n xs := by
  rcases h with ⟨hl, h0 | ⟨g, cap, cur, e0, hbg, hh, q⟩⟩
  · exact ⟨hl, .inl h0⟩
  · exact ⟨hl, .inr ⟨g, cap, cur, e0, hbg, (hg.block g (Array.getElem?_eq_some_iff.1 hh).1 (by simp; omega)).trans hh, q⟩⟩

theorem ownsRow_mono {w : World} {base base' e k n : Nat} {v : Value} {xs : List Value} (h : w.ownsRow base e k v n xs) (hb : base' ≤ base) : w.ownsRow base' e k v n xs := by
  rcases h with ⟨hl, h0 | ⟨g, cap, cur, e0, hbg, q⟩⟩
  · exact ⟨hl, .inl h0⟩
  · exact ⟨hl, .inr ⟨g, cap, cur, e0, Nat.le_trans hb hbg, q⟩⟩

/-- live's loop under way -/
structure LiveRel (w : World) (mb n : Nat) (D : DataW Unit) (now a b : Int) (wr : World) (left : Lit → Bool) (cnt : Nat) (L : List Sess) (v : Value) : Prop where
  rg : wr.ranges Try.prog 2 ptrElem mb (w.heap.size + 2) n D left cnt
  mlt : mb < w.heap.size
  box : wr.cell? ⟨w.heap.size + 1, 0, none⟩ = some v
  free : wr.frozen? ⟨w.heap.size + 1, 0, none⟩ = false
  c0 : wr.cell? ⟨w.heap.size, 0, none⟩ = some (.int .u64 a)
  c1 : wr.cell? ⟨w.heap.size, 1, none⟩ = some (.int .i64 b)
  c2 : wr.cell? ⟨w.heap.size, 2, none⟩ = some (.pointer none)
  own : wr.ownsRow (w.heap.size + 3) 63 12 v L.length (L.flatMap (recL now))
  bel : Below w.heap.size w wr
  size : w.heap.size + 3 ≤ wr.heap.size

theorem LiveRel.step {w : World} {mb n : Nat} {D : DataW Unit} {now a b : Int} {wr w1 : World} {left left1 : Lit → Bool} {cnt cnt1 : Nat} {L : List Sess} {v : Value} (h : LiveRel w mb n D now a b wr left cnt L v)
    (hg : wr.grownBy w1 (some (w.heap.size + 2))) (hr : w1.ranges Try.prog 2 ptrElem mb (w.heap.size + 2) n D left1 cnt1) : LiveRel w mb n D now a b w1 left1 cnt1 L v := by
  have hs := h.size
  have far : ∀ i o, i < w.heap.size + 2 → w1.cell? ⟨i, o, none⟩ = wr.cell? ⟨i, o, none⟩ := fun i o hi => hg.cell_far ⟨i, o, none⟩ (by show i < _; omega) (by simp; omega)
  exact ⟨hr, h.mlt, (far _ _ (by omega)).trans h.box, (hg.frozen_far ⟨w.heap.size + 1, 0, none⟩ (by show w.heap.size + 1 < _; omega) (by simp)).trans h.free, (far _ _ (by omega)).trans h.c0, (far _ _ (by omega)).trans h.c1, (far _ _ (by omega)).trans h.c2,
    own_grown h.own hg (by omega), h.bel.grown hg (by omega) (fun j hj => by cases hj; omega), by have := hg.size; omega⟩

theorem LiveRel.on {w : World} {mb n : Nat} {D : DataW Unit} {now a b : Int} {wr w1 : World} {left : Lit → Bool} {cnt : Nat} {L : List Sess} {v : Value} (h : LiveRel w mb n D now a b wr left cnt L v)
    (hb : Below wr.heap.size wr w1) : LiveRel w mb n D now a b w1 left cnt L v := by
  have hs := h.size
  have far : ∀ i o, i < w.heap.size + 2 → w1.cell? ⟨i, o, none⟩ = wr.cell? ⟨i, o, none⟩ := fun i o hi => hb.cell (p := ⟨i, o, none⟩) (by show i < _; omega)
  exact ⟨ranges_below h.rg hb (Nat.le_refl _), h.mlt, (far _ _ (by omega)).trans h.box, (hb.frozen (p := ⟨w.heap.size + 1, 0, none⟩) (by show w.heap.size + 1 < _; omega)).trans h.free, (far _ _ (by omega)).trans h.c0, (far _ _ (by omega)).trans h.c1, (far _ _ (by omega)).trans h.c2,
    ownsRow_below h.own hb (Nat.le_refl _), h.bel.trans (hb.mono (by omega)), by have := hb.size; omega⟩

theorem own_block {w : World} {base e k n : Nat} {v : Value} {xs : List Value} (h : w.ownsRow base e k v n xs) {j : Nat} (hj : some j = v.ownBlock) : base ≤ j := by
  rcases h.2 with ⟨rfl, _⟩ | ⟨g, cap, cur, rfl, hb, _⟩
  · cases hj
  · simp [Value.ownBlock] at hj
    omega

/-- behind the append: what the box's store finds -/
theorem LiveRel.appended {w : World} {mb n : Nat} {D : DataW Unit} {now a b : Int} {wr w3 : World} {left : Lit → Bool} {cnt : Nat} {L : List Sess} {v : Value} {o : Obj} (h : LiveRel w mb n D now a b wr left cnt L v)
    (hg : (wr.alloc o).grownBy w3 v.ownBlock) : w3.cell? ⟨w.heap.size + 1, 0, none⟩ = some v ∧ w3.frozen? ⟨w.heap.size + 1, 0, none⟩ = false := by
  have hs := h.size
  have h1 := h.on ((Below.refl _ wr).alloc (Nat.le_refl _) o)
  have hne : some (w.heap.size + 1) ≠ v.ownBlock := fun e => by have := own_block h.own e; omega
  exact ⟨(hg.cell_far ⟨w.heap.size + 1, 0, none⟩ (by show w.heap.size + 1 < _; have := h1.size; omega) hne).trans h1.box, (hg.frozen_far ⟨w.heap.size + 1, 0, none⟩ (by show w.heap.size + 1 < _; have := h1.size; omega) hne).trans h1.free⟩

theorem LiveRel.push {w : World} {mb n : Nat} {D : DataW Unit} {now a b : Int} {wr w3 : World} {left : Lit → Bool} {cnt : Nat} {L : List Sess} {v v' : Value} {o : Obj} {s : Sess} (h : LiveRel w mb n D now a b wr left cnt L v)
    (hg : (wr.alloc o).grownBy w3 v.ownBlock) (ho : w3.ownsRow (w.heap.size + 3) 63 12 v' (L.length + 1) (L.flatMap (recL now) ++ recL now s)) :
    LiveRel w mb n D now a b (w3.setCell ⟨w.heap.size + 1, 0, none⟩ v') left cnt (L ++ [s]) v' := by
  have hs := h.size
  have h1 := h.on ((Below.refl _ wr).alloc (Nat.le_refl _) o)
  have hs1 := h1.size
  have hne : ∀ i, i < w.heap.size + 3 → some i ≠ v.ownBlock := fun i hi e => by have := own_block h.own e; omega
  have hap := h.appended hg
  have far : ∀ i c, i < w.heap.size + 1 → (w3.setCell ⟨w.heap.size + 1, 0, none⟩ v').cell? ⟨i, c, none⟩ = (wr.alloc o).cell? ⟨i, c, none⟩ := fun i c hi =>
    (setc (by omega)).trans (hg.cell_far ⟨i, c, none⟩ (by show i < _; omega) (hne i (by omega)))
  have hb3 : Below w.heap.size w w3 := h1.bel.grown hg (by omega) (fun j hj => by have := own_block h.own hj.symm; omega)
  have hg' : w3.grownBy (w3.setCell ⟨w.heap.size + 1, 0, none⟩ v') (some (w.heap.size + 1)) :=
    ⟨rfl, rfl, rfl, by simp [World.setCell], fun i _ hne => Below.heap_setCell w3 ⟨w.heap.size + 1, 0, none⟩ v' i (by intro e; exact hne (by rw [e]))⟩
  refine ⟨?_, h.mlt, ?_, ?_, (far _ _ (by omega)).trans h1.c0, (far _ _ (by omega)).trans h1.c1, (far _ _ (by omega)).trans h1.c2, ?_, hb3.setCell (by show w.heap.size ≤ w.heap.size + 1; omega) _, ?_⟩
  · refine (h1.rg.kept hg (hne _ (by have := h.mlt; omega)) (hne _ (by omega))).kept hg' (by simp; have := h.mlt; omega) (by simp)
  · exact World.cell?_setCell_same _ _ _ hap.1
  · rw [World.frozen?_setCell]
    exact hap.2
  · have : (L ++ [s]).flatMap (recL now) = L.flatMap (recL now) ++ recL now s := by simp
    rw [this, List.length_append]
    exact own_grown ho hg' (by omega)
  · have := hg'.size
    have := hg.size
    omega
end Go.Proofs.Qxb6615037a
