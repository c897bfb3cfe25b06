/-
  The plain side of zzWantOthers: an insertion by number.
-/
import Derived.Test.Qxb6615037aLook
namespace Go.Proofs.Qxb6615037a
open Go.RowKit

def numAt (ss : List Sess) (i : Nat) : Int := (ss[i]?.map Sess.num).getD 0

/-- session j is wanted: its lease runs past now, it plays by another protocol, no later one stands under its number -/
def Wanted (ss : List Sess) (now : Int) (j : Nat) : Prop := ∃ s, ss[j]? = some s ∧ now < s.exp ∧ s.prot ≠ 5 ∧ overB ss j s.num = false

/-- X: the wanted ones of the first k, by rising number -/
structure WantTo (ss : List Sess) (now : Int) (k : Nat) (X : List Nat) : Prop where
  mem : ∀ j, j ∈ X ↔ (j < k ∧ Wanted ss now j)
  sorted : X.Pairwise fun i j => numAt ss i < numAt ss j
  len : X.length ≤ k

theorem WantTo.zero (ss : List Sess) (now : Int) : WantTo ss now 0 [] := ⟨fun j => by simp, List.Pairwise.nil, by simp⟩

theorem WantTo.skip {ss : List Sess} {now : Int} {k : Nat} {X : List Nat} (h : WantTo ss now k X) (hn : ¬ Wanted ss now k) : WantTo ss now (k + 1) X := by
  refine ⟨fun j => ?_, h.sorted, by have := h.len; omega⟩
  rw [h.mem]
  constructor
  · rintro ⟨h1, h2⟩; exact ⟨by omega, h2⟩
  · rintro ⟨h1, h2⟩
    by_cases e : j = k
    · subst e; exact absurd h2 hn
    · exact ⟨by omega, h2⟩

theorem numAt_of {ss : List Sess} {i : Nat} {s : Sess} (h : ss[i]? = some s) : numAt ss i = s.num := by simp [numAt, h]

/-- two wanted ones bear two numbers -/
theorem wanted_ne {ss : List Sess} {now : Int} {p k : Nat} (hp : Wanted ss now p) (hk : Wanted ss now k) (hlt : p < k) : numAt ss p ≠ numAt ss k := by
  obtain ⟨s, hs, _, _, ho⟩ := hp
  obtain ⟨t, ht, _⟩ := hk
  rw [numAt_of hs, numAt_of ht]
  intro e
  have := over_true (i := p) ht hlt e.symm
  rw [this] at ho
  cases ho

theorem WantTo.insert {ss : List Sess} {now : Int} {k : Nat} {X A B : List Nat} (h : WantTo ss now k X) (hw : Wanted ss now k) (hX : X = A ++ B) (hB : ∀ j ∈ B, numAt ss k < numAt ss j) (hA : ∀ p, A.getLast? = some p → numAt ss p < numAt ss k) : WantTo ss now (k + 1) (A ++ [k] ++ B) := by
  subst hX
  have hs := h.sorted
  rw [List.pairwise_append] at hs
  have hA' : ∀ j ∈ A, numAt ss j < numAt ss k := by
    intro j hj
    rcases List.eq_nil_or_concat A with e | ⟨A0, p, e⟩
    · rw [e] at hj; simp at hj
    · rw [List.concat_eq_append] at e
      have hp := hA p (by rw [e]; simp)
      rw [e] at hj
      rcases List.mem_append.1 hj with h1 | h1
      · have h2 := hs.1
        rw [e, List.pairwise_append] at h2
        have := h2.2.2 j h1 p (by simp)
        omega
      · simp at h1; subst h1; exact hp
  refine ⟨fun j => ?_, ?_, ?_⟩
  · have := h.mem j
    simp only [List.mem_append, List.mem_singleton] at this ⊢
    constructor
    · rintro ((h1 | h1) | h1)
      · obtain ⟨h2, h3⟩ := this.1 (Or.inl h1); exact ⟨by omega, h3⟩
      · subst h1; exact ⟨by omega, hw⟩
      · obtain ⟨h2, h3⟩ := this.1 (Or.inr h1); exact ⟨by omega, h3⟩
    · rintro ⟨h1, h2⟩
      by_cases e : j = k
      · exact Or.inl (Or.inr e)
      · rcases this.2 ⟨by omega, h2⟩ with h3 | h3
        · exact Or.inl (Or.inl h3)
        · exact Or.inr h3
  · rw [List.pairwise_append, List.pairwise_append]
    refine ⟨⟨hs.1, by simp, fun a ha b hb => ?_⟩, hs.2.1, fun a ha b hb => ?_⟩
    · simp at hb; subst hb; exact hA' a ha
    · rcases List.mem_append.1 ha with h1 | h1
      · exact hs.2.2 a h1 b hb
      · simp at h1; subst h1; exact hB b hb
  · have := h.len
    simp at this ⊢
    omega

theorem WantTo.lt {ss : List Sess} {now : Int} {k : Nat} {X : List Nat} (h : WantTo ss now k X) {j : Nat} (hj : j ∈ X) : j < k ∧ ∃ s, ss[j]? = some s ∧ Wanted ss now j := by
  obtain ⟨h1, s, hs, h2⟩ := (h.mem j).1 hj
  exact ⟨h1, s, hs, s, hs, h2⟩

/-- the cells of a list of indices -/
def encN (i : Nat) : Value := .int .i64 (i : Int)

theorem swap_cells (A : List Nat) (p i : Nat) (B : List Nat) : (((A ++ [p] ++ [i] ++ B).map encN).set A.length (encN i)).set (A.length + 1) (encN p) = (A ++ [i] ++ [p] ++ B).map encN := by
  simp

end Go.Proofs.Qxb6615037a
