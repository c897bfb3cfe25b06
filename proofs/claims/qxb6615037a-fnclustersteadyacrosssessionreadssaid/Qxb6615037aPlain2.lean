/-
  The plain law: what OtherProtocols reads is what zzWantOthers names.
-/
import Derived.Test.Qxb6615037aPlain
import Derived.Test.Qxb6615037aRead
namespace Go.Proofs.Qxb6615037a

theorem mapOf_take (ss : List Sess) : ∀ (k : Nat) (m : Int) (s : Sess), mapOf (ss.take k) m = some s ↔ ∃ i, i < k ∧ ss[i]? = some s ∧ s.num = m ∧ NoneTo ss i k m
  | 0, m, s => by
    constructor
    · intro h; simp [mapOf] at h
    · rintro ⟨i, hi, _⟩; omega
  | k + 1, m, s => by
    cases hk : ss[k]? with
    | none =>
      have hl : ss.length ≤ k := List.getElem?_eq_none_iff.1 hk
      have e : ss.take (k + 1) = ss.take k := by rw [List.take_of_length_le hl, List.take_of_length_le (by omega)]
      rw [e, mapOf_take ss k m s]
      constructor
      · rintro ⟨i, h1, h2, h3, h4⟩
        refine ⟨i, by omega, h2, h3, fun t a b u hu => ?_⟩
        have := (List.getElem?_eq_some_iff.1 hu).1
        exact h4 t a (by omega) u hu
      · rintro ⟨i, h1, h2, h3, h4⟩
        have := (List.getElem?_eq_some_iff.1 h2).1
        exact ⟨i, by omega, h2, h3, fun t a b u hu => h4 t a (by omega) u hu⟩
    | some u =>
      rw [mapOf_succ hk]
      unfold upd
      by_cases e : m = u.num
      · rw [if_pos e]
        constructor
        · intro h
          cases h
          exact ⟨k, by omega, hk, e.symm, fun t a b => by omega⟩
        · rintro ⟨i, h1, h2, h3, h4⟩
          by_cases ei : i = k
          · rw [ei, hk] at h2
            exact h2
          · exact absurd e.symm (h4 k (by omega) (by omega) u hk)
      · rw [if_neg e, mapOf_take ss k m s]
        constructor
        · rintro ⟨i, h1, h2, h3, h4⟩
          exact ⟨i, by omega, h2, h3, h4.succ hk (Ne.symm e)⟩
        · rintro ⟨i, h1, h2, h3, h4⟩
          by_cases ei : i = k
          · rw [ei, hk] at h2
            cases h2
            exact absurd h3.symm e
          · exact ⟨i, by omega, h2, h3, fun t a b v hv => h4 t a (by omega) v hv⟩

theorem none_of_over {ss : List Sess} {i : Nat} {m : Int} (h : overB ss i m = false) : NoneTo ss i ss.length m := by
  intro t h1 _ u hu e
  have := over_true hu h1 e
  rw [h] at this
  cases this

theorem mapOf_iff (ss : List Sess) (s : Sess) : mapOf ss s.num = some s ↔ ∃ i, ss[i]? = some s ∧ overB ss i s.num = false := by
  have h := mapOf_take ss ss.length s.num s
  rw [List.take_length] at h
  rw [h]
  constructor
  · rintro ⟨i, _, h2, _, h4⟩; exact ⟨i, h2, over_false h4⟩
  · rintro ⟨i, h2, h4⟩; exact ⟨i, (List.getElem?_eq_some_iff.1 h2).1, h2, rfl, none_of_over h4⟩

theorem mapOf_mem {ss : List Sess} {k : Int} {s : Sess} (h : mapOf ss k = some s) : ∃ i : Nat, ss[i]? = some s := by
  have h' := mapOf_take ss ss.length k s
  rw [List.take_length] at h'
  obtain ⟨i, _, h2, _⟩ := h'.1 h
  exact ⟨i, h2⟩

/-- two lists by rising number that hold the same are one -/
theorem sorted_uniq : ∀ {L1 L2 : List Sess}, L1.Pairwise (fun a b => a.num < b.num) → L2.Pairwise (fun a b => a.num < b.num) → (∀ s, s ∈ L1 ↔ s ∈ L2) → L1 = L2
  | [], [], _, _, _ => rfl
  | [], b :: l2, _, _, h => absurd ((h b).2 (List.mem_cons_self)) (by simp)
  | a :: l1, [], _, _, h => absurd ((h a).1 (List.mem_cons_self)) (by simp)
  | a :: l1, b :: l2, h1, h2, h => by
    rw [List.pairwise_cons] at h1 h2
    have e : a = b := by
      rcases List.mem_cons.1 ((h a).1 List.mem_cons_self) with e | e
      · exact e
      · rcases List.mem_cons.1 ((h b).2 List.mem_cons_self) with e' | e'
        · exact e'.symm
        · have x := h2.1 a e
          have y := h1.1 b e'
          omega
    subst e
    have t : l1 = l2 := by
      refine sorted_uniq h1.2 h2.2 fun s => ⟨fun hs => ?_, fun hs => ?_⟩
      · rcases List.mem_cons.1 ((h s).1 (List.mem_cons_of_mem _ hs)) with e | e
        · subst e
          have := h1.1 s hs
          omega
        · exact e
      · rcases List.mem_cons.1 ((h s).2 (List.mem_cons_of_mem _ hs)) with e | e
        · subst e
          have := h2.1 s hs
          omega
        · exact e
    rw [t]

theorem IsOthers.uniq {M : Int → Option Sess} {now : Int} {L1 L2 : List Sess} (h1 : IsOthers M now L1) (h2 : IsOthers M now L2) : L1 = L2 :=
  sorted_uniq h1.sorted h2.sorted fun s => (h1.mem s).trans (h2.mem s).symm

theorem WantTo.others {ss : List Sess} {now : Int} {X : List Nat} (h : WantTo ss now ss.length X) : IsOthers (mapOf ss) now (X.filterMap fun i => ss[i]?) := by
  refine ⟨?_, fun s => ?_⟩
  · rw [List.pairwise_filterMap]
    refine h.sorted.imp ?_
    intro i j hij a ha b hb
    rw [numAt_of ha, numAt_of hb] at hij
    exact hij
  · rw [List.mem_filterMap, mapOf_iff]
    constructor
    · rintro ⟨i, hi, hs⟩
      obtain ⟨_, t, ht, h1, h2, h3⟩ := (h.mem i).1 hi
      rw [hs] at ht
      cases ht
      exact ⟨⟨i, hs, h3⟩, h1, h2⟩
    · rintro ⟨⟨i, hs, h3⟩, h1, h2⟩
      exact ⟨i, (h.mem i).2 ⟨(List.getElem?_eq_some_iff.1 hs).1, s, hs, h1, h2, h3⟩, hs⟩

theorem filterMap_at {α β : Type} (f : α → Option β) : ∀ (X : List α), (∀ i ∈ X, ∃ s, f i = some s) → (X.filterMap f).length = X.length ∧ ∀ (k : Nat) (i : α), X[k]? = some i → (X.filterMap f)[k]? = f i
  | [], _ => ⟨rfl, fun k i h => by simp at h⟩
  | a :: X, h => by
    obtain ⟨s, hs⟩ := h a List.mem_cons_self
    obtain ⟨h1, h2⟩ := filterMap_at f X fun i hi => h i (List.mem_cons_of_mem _ hi)
    rw [List.filterMap_cons_some hs]
    refine ⟨by simp [h1], fun k i hk => ?_⟩
    match k, hk with
    | 0, hk => simp at hk; subst hk; simp [hs]
    | k + 1, hk => simp at hk ⊢; exact h2 k i hk

/-- what is read, at index k, is the session that the model names there -/
theorem want_same {ss : List Sess} {now : Int} {X : List Nat} {L : List Sess} (hX : WantTo ss now ss.length X) (hL : IsOthers (mapOf ss) now L) :
    L.length = X.length ∧ ∀ (k i : Nat), X[k]? = some i → ∃ s : Sess, ss[i]? = some s ∧ L[k]? = some s ∧ now < s.exp := by
  have e := hL.uniq hX.others
  have hall : ∀ i ∈ X, ∃ s, ss[i]? = some s := fun i hi => by obtain ⟨_, s, hs, _⟩ := hX.lt hi; exact ⟨s, hs⟩
  obtain ⟨h1, h2⟩ := filterMap_at (fun i => ss[i]?) X hall
  rw [← e] at h1 h2
  refine ⟨h1, fun k i hk => ?_⟩
  obtain ⟨_, s, hs, _⟩ := hX.lt (List.mem_of_getElem? hk)
  have h3 : L[k]? = some s := (h2 k i hk).trans hs
  exact ⟨s, hs, h3, ((hL.mem s).1 (List.mem_of_getElem? h3)).2.1⟩

/-- read later: the earlier records whose leases run past it -/
theorem IsOthers.later {M : Int → Option Sess} {now later : Int} {L : List Sess} (h : IsOthers M now L) (hl : now ≤ later) : IsOthers M later (L.filter fun s => decide (later < s.exp)) := by
  refine ⟨h.sorted.filter _, fun s => ?_⟩
  rw [List.mem_filter, h.mem]
  constructor
  · rintro ⟨⟨h1, h2, h3⟩, h4⟩
    exact ⟨h1, by simpa using h4, h3⟩
  · rintro ⟨h1, h2, h3⟩
    exact ⟨⟨h1, by omega, h3⟩, by simpa using h2⟩
end Go.Proofs.Qxb6615037a
