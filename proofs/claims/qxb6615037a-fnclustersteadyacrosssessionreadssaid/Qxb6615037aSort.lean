/-
  live's own call of sort.Slice: a slice of records that the call itself made ends sorted by number.
-/
import Derived.Test.Qxb6615037aLive1
import Derived.Test.Qxb6615037aShelf
import Derived.Lib.OwnBridge
import Derived.Shelf.GgSortFunc.Tiny
namespace Go.Proofs.Qxb6615037a
open Go.RowKit Go.Shelf Go.Lib Go.Sort

/-- a record's cells, as a list -/
def recL (now : Int) (s : Sess) : List Value := (recCells now s).toList

theorem recL_len (now : Int) (s : Sess) : (recL now s).length = 12 := rfl

theorem recL_one (now : Int) (s : Sess) : ∀ v ∈ recL now s, v.oneCell' = true := by
  intro v hv
  simp [recL, recCells] at hv
  rcases hv with rfl | rfl | rfl | rfl | rfl | rfl | rfl | rfl | rfl | rfl | rfl <;> rfl

theorem flat_get {α : Type} (enc : α → List Value) (k : Nat) (k0 : 0 < k) (hk : ∀ x, (enc x).length = k) : ∀ (L : List α) (t : Nat), (L.flatMap enc)[t]? = (L[t / k]?).bind fun x => (enc x)[t % k]?
  | [], t => by simp
  | x :: L, t => by
    rw [List.flatMap_cons]
    by_cases h : t < k
    · rw [List.getElem?_append_left (by rw [hk]; exact h), Nat.div_eq_of_lt h, Nat.mod_eq_of_lt h]
      simp
    · obtain ⟨u, rfl⟩ : ∃ u, t = u + k := ⟨t - k, by omega⟩
      rw [List.getElem?_append_right (by rw [hk]; omega), hk, Nat.add_sub_cancel, flat_get enc k k0 hk L u, Nat.add_div_right u k0, Nat.add_mod_right]
      simp

theorem flat_len {α : Type} (enc : α → List Value) (k : Nat) (hk : ∀ x, (enc x).length = k) : ∀ (L : List α), (L.flatMap enc).length = L.length * k
  | [] => by simp
  | x :: L => by rw [List.flatMap_cons, List.length_append, hk, flat_len enc k hk L, List.length_cons, Nat.add_mul, Nat.one_mul, Nat.add_comm]

theorem flatK_eq {α : Type} [Inhabited α] (enc : α → List Value) (k : Nat) (k0 : 0 < k) (hk : ∀ x, (enc x).length = k) (L : List α) : flatK enc k L.toArray = (L.flatMap enc).toArray := by
  refine ext_get! (by simp [flat_len enc k hk]) fun t ht => ?_
  have ht' : t < L.length * k := by simpa using ht
  have hd : t / k < L.length := Nat.div_lt_of_lt_mul (by rw [Nat.mul_comm]; exact ht')
  rw [get_flatK _ _ _ t (by simpa using ht')]
  have hg := flat_get enc k k0 hk L t
  rw [List.getElem?_eq_getElem hd] at hg
  have hm : t % k < (enc L[t / k]).length := by rw [hk]; exact Nat.mod_lt _ k0
  simp only [Option.bind_some] at hg
  rw [List.getElem?_eq_getElem hm] at hg
  have hl : t < (L.flatMap enc).length := by rw [flat_len enc k hk]; exact ht'
  rw [List.getElem?_eq_getElem hl] at hg
  simp only [Option.some.injEq] at hg
  rw [getElem!_pos (L.flatMap enc).toArray t (by simpa using hl)]
  simp only [List.getElem_toArray]
  rw [hg, getElem!_pos L.toArray (t / k) (by simpa using hd)]
  simp only [List.getElem_toArray]
  exact getElem!_pos (enc L[t / k]) (t % k) hm

/-- DOWN: an owned row of k-celled elements that is not nil -/
theorem holdsK_of_ownsRow {α : Type} [Inhabited α] {enc : α → List Value} {k : Nat} (k0 : 0 < k) (hk : ∀ x, (enc x).length = k) {w : World} {base e g n cap : Nat} {L : List α} (h : w.ownsRow base e k (.slice (some ⟨g, 0, none⟩) n cap) n (L.flatMap enc)) :
    base ≤ g ∧ g < w.heap.size ∧ L.length = n ∧ n ≤ cap ∧ HoldsK enc k w g 0 L.toArray := by
  have hl : L.length = n := by
    have := h.1
    rw [flat_len enc k hk] at this
    exact Nat.eq_of_mul_eq_mul_right k0 this
  rcases h.2 with ⟨e0, _⟩ | ⟨g', cap', cur, e0, hb, hg, hn, hm, hs, ht⟩
  · cases e0
  · injection e0 with e1 _ e3
    injection e1 with e1
    injection e1 with e1
    subst e1; subst e3
    refine ⟨hb, (Array.getElem?_eq_some_iff.1 hg).1, hl, hn, ?_⟩
    unfold HoldsK
    rw [flatK_eq enc k k0 hk]
    intro j hj
    have hj' : j < (L.flatMap enc).length := by simpa using hj
    refine ⟨?_, by simp [World.frozen?, hg]⟩
    have e1 : (cur.toList.take (n * k))[j]? = (L.flatMap enc)[j]? := by rw [ht]
    have hjn : j < n * k := by rw [h.1] at hj'; exact hj'
    rw [List.getElem?_take, if_pos hjn, Array.getElem?_toList, List.getElem?_eq_getElem hj'] at e1
    simp only [World.cell?, hg, Nat.zero_add]
    simp only [Option.isSome_none, Bool.false_eq_true, if_false]
    rw [e1]
    simp [List.getElem?_eq_getElem hj']

/-- UP -/
theorem ownsRow_putRowK {α : Type} [Inhabited α] {enc : α → List Value} {k : Nat} (k0 : 0 < k) (hk : ∀ x, (enc x).length = k) {w : World} {base e g n cap q : Nat} {L L' : List α} (h : w.ownsRow base e k (.slice (some ⟨g, 0, none⟩) n cap) n (L.flatMap enc)) (hL : L'.length = L.length) :
    (putRowK enc k (Sort.ahead w q) g 0 L'.toArray).ownsRow base e k (.slice (some ⟨g, 0, none⟩) n cap) n (L'.flatMap enc) := by
  have hl := h.1
  rcases h.2 with ⟨e0, _⟩ | ⟨g', cap', cur, e0, hb, hg, hn, hm, hs, ht⟩
  · cases e0
  · injection e0 with e1 _ e3
    injection e1 with e1
    injection e1 with e1
    subst e1; subst e3
    unfold putRowK
    rw [flatK_eq enc k k0 hk]
    have hl' : (L'.flatMap enc).length = n * k := by rw [flat_len enc k hk, hL, ← flat_len enc k hk]; exact hl
    refine ⟨hl', .inr ⟨g, cap, putCells id 0 (L'.flatMap enc).toArray cur, rfl, hb, ?_, hn, hm, by simpa [putCells] using hs, ?_⟩⟩
    · simp [putRow, mapBlock, Sort.ahead, Array.getElem?_modify, hg, onCells]
    · apply List.ext_getElem?
      intro j
      rw [List.getElem?_take, Array.getElem?_toList]
      by_cases hj : j < n * k
      · have hjc : j < cur.size := by rw [hs]; exact Nat.lt_of_lt_of_le hj (Nat.mul_le_mul_right k hn)
        have hj' : j < (L'.flatMap enc).length := by rw [hl']; exact hj
        simp only [if_pos hj, putCells, Array.getElem?_mapIdx, Array.getElem?_eq_getElem hjc, Option.map_some]
        rw [if_pos (by rw [List.size_toArray]; omega), List.getElem?_eq_getElem hj']
        simp [List.getElem?_eq_getElem hj']
      · rw [if_neg hj, List.getElem?_eq_none (by omega)]

theorem below_growL {B : Nat} {a w : World} (h : RowKit.Below B a w) (os : Array Obj) (hB : B ≤ w.heap.size) : RowKit.Below B a (grow w os) :=
  h.trans ⟨rfl, rfl, rfl, by simp [grow], fun k hk => by
    show (w.heap ++ os)[k]? = _
    rw [Array.getElem?_append_left (by omega)]⟩

theorem ownsRow_growL {w : World} {base e k g n cap : Nat} {xs : List Value} {os : Array Obj} (h : w.ownsRow base e k (.slice (some ⟨g, 0, none⟩) n cap) n xs) (hg : g < w.heap.size) : (grow w os).ownsRow base e k (.slice (some ⟨g, 0, none⟩) n cap) n xs := by
  rcases h with ⟨hl, ⟨e0, _⟩ | ⟨g', cap', cur, e0, hb, hh, r⟩⟩
  · cases e0
  · injection e0 with e1 _ e3
    injection e1 with e1
    injection e1 with e1
    subst e1; subst e3
    refine ⟨hl, .inr ⟨g, cap, cur, rfl, hb, ?_, r⟩⟩
    show (w.heap ++ os)[g]? = _
    rw [Array.getElem?_append_left hg]
    exact hh

theorem below_putRowK {α : Type} [Inhabited α] {enc : α → List Value} {k B : Nat} {w0 w : World} {g q : Nat} {d : Array α} (h : RowKit.Below B w0 w) (hg : B ≤ g) : RowKit.Below B w0 (putRowK enc k (Sort.ahead w q) g 0 d) :=
  below_putRow h hg

abbrev inhSess : Inhabited Sess := ⟨⟨0, ⟨#[]⟩, ⟨#[]⟩, 0, false, 0⟩⟩

def ltNum (a b : Sess) : Bool := decide (a.num < b.num)

theorem swo_ltNum : SWO ltNum := {
  irrefl := fun x => by simp [ltNum]
  trans := fun x y z h1 h2 => by simp [ltNum] at *; omega
  ntrans := fun x y z h1 h2 => by simp [ltNum] at *; omega }

set_option maxHeartbeats 2000000 in
/-- live's own closure -/
theorem less_any (blk c Bs size : Nat) (W : World) (G : Nat → Int) (hs : W.cell? ⟨Bs, 0, none⟩ = some (.slice (some ⟨blk, 0, none⟩) size c))
    (hc : ∀ t, t < size → W.cell? ⟨blk, t * 12, none⟩ = some (.int .i64 (G t))) (i j : Nat) (hi : i < size) (hj : j < size) (_hsz : size < 4611686018427387904) :
    Calls Try.prog 38 #[.int .i64 i, .int .i64 j, .pointer (some ⟨Bs, 0, none⟩)] W fun e w' => e = .returned (.bool (decide (G i < G j))) ∧ ∃ q, w' = W.drewN q := by
  have ci := hc i hi
  have cj := hc j hj
  go_enter Try.func38, Try.ntmps38
  go_wp2
  go_quiet (fail)
  go_wp2
  go_ret
  exact ⟨rfl, nq, rfl⟩

theorem infoSort : (Try.prog.info? 44).map (fun i => i.desc) = some (.slice 63) := by kernel_rfl
theorem infoSortE : (Try.prog.info? 63).map (fun i => (i.size, i.hasPointers, i.bytes == 8)) = some (12, true, false) := by kernel_rfl

/-- the sorted row's own words -/
def SortedTo (L L' : List Sess) : Prop := L'.Perm L ∧ L'.Pairwise fun a b => a.num ≤ b.num

set_option maxHeartbeats 2000000 in
theorem sort_any (now : Int) (L : List Sess) (base Bs n : Nat) (v : Value) (w : World) (ho : w.ownsRow base 63 12 v n (L.flatMap (recL now))) (hn : n < 4611686018427387904)
    (hBs : w.cell? ⟨Bs, 0, none⟩ = some v) (hB1 : Bs < base) (hB2 : base ≤ w.heap.size) :
    Calls Try.prog 37 #[.iface 44 v, .func (.func 38) #[] #[.pointer (some ⟨Bs, 0, none⟩)]] w fun e w' =>
      e = .returned (.tuple #[]) ∧ ∃ L', SortedTo L L' ∧ w'.ownsRow base 63 12 v n (L'.flatMap (recL now)) ∧ RowKit.Below base w w' := by
  letI := inhSess
  obtain ⟨it, hit, hid⟩ := Option.map_eq_some_iff.1 infoSort
  obtain ⟨ie, hie, hie2⟩ := Option.map_eq_some_iff.1 infoSortE
  simp only [Prod.mk.injEq] at hie2
  have hlen : L.length = n := by
    have := ho.1
    rw [flat_len (recL now) 12 (recL_len now)] at this
    omega
  by_cases h2 : 2 ≤ n
  · rcases id ho.2 with ⟨_, h0⟩ | ⟨g, cap, cur, rfl, _⟩
    · omega
    · obtain ⟨hbg, hgs, _, hcap, hH⟩ := holdsK_of_ownsRow (by omega) (recL_len now) ho
      have hsz : L.toArray.size = n := by simpa using hlen
      have hless : LessReadsK Try.prog 38 #[.pointer (some ⟨Bs, 0, none⟩)] (recL now) 12 ltNum g 0 L.toArray.size w := by
        intro m os dk hs i j hi hj
        have e : sortWorldK (recL now) 12 w g 0 m dk os = putRowK (recL now) 12 (grow (Sort.ahead w m) os) g 0 dk := by
          unfold sortWorldK; rw [putRowK_grow _ _ (Sort.ahead w m) _ g 0 _ hgs]
        have hHg : HoldsK (recL now) 12 (grow (Sort.ahead w m) os) g 0 L.toArray := holdsK_grow _ _ _ _ g 0 L.toArray hgs (holdsK_ahead _ _ _ _ _ _ _ hH)
        refine less_any g cap Bs n _ (fun t => dk[t]!.num) ?_ (fun t ht => ?_) i j (by omega) (by omega) (by omega)
        · rw [e, cell?_putRowK_other _ _ _ g 0 dk _ (by show Bs ≠ g; omega), cell?_grow _ _ _ (by show Bs < w.heap.size; omega)]; exact hBs
        · have := ((holdsK_putRowK _ _ _ g 0 L.toArray dk hHg hs).cell (i := t) (c := 0) (by omega) (by omega)).1
          rw [e, show t * 12 = 0 + t * 12 + 0 by omega]
          exact this
      have hkk : Lib.swapperK L.toArray.size ie 25 = 9 := by
        have c : (L.toArray.size == 0) = false := by simp only [hsz]; simp; omega
        have d : (L.toArray.size == 1) = false := by simp only [hsz]; simp; omega
        unfold Lib.swapperK
        rw [c, d, hie2.2.1, hie2.2.2]
        rfl
      have hS := Any.sort_Slice_cells_sorted Try.sl6 44 63 it ie hit hid (by kernel_rfl) hie 25 (fun _ => by kernel_rfl) (recL now) 12 (recL_len now) hie2.1 (fun _ => by kernel_rfl)
        (recL_one now) ltNum swo_ltNum 38 _ (enters_of Try.func38 (by kernel_rfl) rfl) g 0 cap L.toArray (by omega) (by omega) 52 (by rw [hkk]; kernel_rfl) false
        (fun args W => run_callFunc_extern Try.func52 (by kernel_rfl) (by kernel_rfl) (by kernel_rfl) (e := Extern.ReflectliteSwapper.swap false) (by kernel_rfl) args W) w hless hH hgs
      rw [hsz] at hS
      refine hS.mono ?_
      rintro e w' ⟨rfl, d', m, os, hp, hso, rfl⟩
      refine ⟨rfl, d'.toList, ⟨?_, ?_⟩, ?_, ?_⟩
      · have h3 := hp.2.2
        have e1 : d'.extract 0 n = d' := by rw [← hsz, ← hp.1]; simp
        have e2 : L.toArray.extract 0 n = L.toArray := by rw [← hsz]; simp
        rw [e1, e2] at h3
        exact h3
      · rw [List.pairwise_iff_getElem]
        intro i j hi hj hij
        have hds : d'.size = n := by rw [hp.1, hsz]
        have hi' : i < d'.size := by simpa using hi
        have hj' : j < d'.size := by simpa using hj
        have := hso i j (Nat.zero_le _) hij (by omega)
        rw [getElem!_pos d' i hi', getElem!_pos d' j hj'] at this
        simp [ltNum] at this
        simpa using this
      · have hds : d'.toList.length = L.length := by rw [Array.length_toList, hp.1]; simp
        have := ownsRow_putRowK (q := m) (by omega) (recL_len now) ho hds
        exact ownsRow_growL this (by simp [putRowK, putRow, mapBlock, Sort.ahead]; exact hgs)
      · exact below_growL (below_putRowK (RowKit.Below.refl _ _) hbg) os (by simp [putRowK, putRow, mapBlock, Sort.ahead]; exact hB2)
  · have hnf : ∃ f, Try.prog.funcs.findIdx? (·.name == "internal/reflectlite" ++ ".Swapper$" ++ toString (swapperK n ie 25)) = some f := by
      rcases (show n = 0 ∨ n = 1 by omega) with rfl | rfl
      · exact ⟨44, by kernel_rfl⟩
      · exact ⟨45, by kernel_rfl⟩
    obtain ⟨f, hf⟩ := hnf
    obtain ⟨p, c, rfl⟩ : ∃ p c, v = .slice p n c := by
      rcases ho.2 with ⟨rfl, rfl⟩ | ⟨g, cap, cur, rfl, _⟩
      · exact ⟨_, _, rfl⟩
      · exact ⟨_, _, rfl⟩
    refine (Any.sort_Slice_tiny Try.sl6 44 63 it ie hit hid (by kernel_rfl) hie 25 (fun _ => by kernel_rfl) p n c (by omega) f hf (.func 38) #[] _ w).mono ?_
    rintro e w' ⟨rfl, os, rfl⟩
    refine ⟨rfl, L, ⟨List.Perm.refl _, ?_⟩, ?_, below_growL (RowKit.Below.refl _ _) os hB2⟩
    · match L, hlen with
      | [], _ => exact List.Pairwise.nil
      | [x], _ => exact List.pairwise_singleton _ _
      | x :: y :: r, h => simp at h; omega
    · rcases id ho.2 with ⟨h1, h3⟩ | ⟨g, cap, cur, e0, _, hg, _⟩
      · exact ⟨ho.1, .inl ⟨h1, h3⟩⟩
      · rw [e0] at ho ⊢
        exact ownsRow_growL ho (Array.getElem?_eq_some_iff.1 hg).1
end Go.Proofs.Qxb6615037a
