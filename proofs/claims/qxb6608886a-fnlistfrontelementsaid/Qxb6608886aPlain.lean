/-
  THE PLAIN LAW: what 'list' answers, as a function on lists of bytes; no Go in sight.
-/
import Derived.Lib.Join
namespace Go.Proofs.Qxb6608886a
open Go

def sepL : List UInt8 := [44, 32]
def andL : List UInt8 := [32, 97, 110, 100, 32]

/-- a sentence's list of names: "a", "a and b", "a, b and c" -/
def listL (xs : List (List UInt8)) : List UInt8 :=
  if xs.length = 1 then xs.headD [] else Lib.join (xs.take (xs.length - 1)) sepL ++ andL ++ xs.getD (xs.length - 1) []

theorem listL_snoc (r : List (List UInt8)) (y : List UInt8) (h : r ≠ []) : listL (r ++ [y]) = Lib.join r sepL ++ andL ++ y := by
  have h1 : 0 < r.length := List.length_pos_iff.2 h
  unfold listL
  rw [if_neg (by simp; omega)]
  simp

theorem join_snoc (r : List (List UInt8)) (y : List UInt8) (h : r ≠ []) : Lib.join (r ++ [y]) sepL = Lib.join r sepL ++ sepL ++ y := by
  obtain ⟨x, t, rfl⟩ : ∃ x t, r = x :: t := by
    cases r with
    | nil => exact absurd rfl h
    | cons x t => exact ⟨x, t, rfl⟩
  rw [List.cons_append, Lib.join_cons, Lib.join_cons]
  simp [Lib.joinTail, List.append_assoc]

theorem join_front (x : List UInt8) (r : List (List UInt8)) (h : r ≠ []) : Lib.join (x :: r) sepL = x ++ sepL ++ Lib.join r sepL := by
  obtain ⟨y, t, rfl⟩ : ∃ x t, r = x :: t := by
    cases r with
    | nil => exact absurd rfl h
    | cons x t => exact ⟨x, t, rfl⟩
  rw [Lib.join_cons, Lib.join_cons]
  simp [Lib.joinTail, List.append_assoc]

theorem join_len (r : List (List UInt8)) (h : r ≠ []) : (Lib.join r sepL).length = 2 * (r.length - 1) + Lib.lens r := by
  obtain ⟨x, t, rfl⟩ : ∃ x t, r = x :: t := by
    cases r with
    | nil => exact absurd rfl h
    | cons x t => exact ⟨x, t, rfl⟩
  rw [Lib.join_length]
  simp [sepL]

theorem join_head (r : List (List UInt8)) (x : List UInt8) (h : r[0]? = some x) : ∃ t, Lib.join r sepL = x ++ t := by
  cases r with
  | nil => simp at h
  | cons y t =>
    simp at h
    subst h
    exact ⟨_, Lib.join_cons _ _ _⟩

theorem lens_append (a b : List (List UInt8)) : Lib.lens (a ++ b) = Lib.lens a + Lib.lens b := by
  simp [Lib.lens]

end Go.Proofs.Qxb6608886a
