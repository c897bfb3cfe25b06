/-
  A slice of sessions as the walks are told of it; the functions that only look at it.
-/
import Derived.Test.Qxb6615037aTime
import Derived.LoopTactic
import Derived.Deep.QuietTactic
import Derived.BigQuiet
namespace Go.Proofs.Qxb6615037a
open Go.RowKit

structure Sess where
  num : Int
  id : ByteArray
  st : ByteArray
  exp : Int
  rep : Bool
  prot : Int

/-- the six cells of a session from offset q of block b on -/
structure Six (w : World) (b q : Nat) (s : Sess) : Prop where
  c0 : w.cell? ⟨b, q, none⟩ = some (.int .i64 s.num)
  c1 : w.cell? ⟨b, q + 1, none⟩ = some (.string s.id)
  c2 : w.cell? ⟨b, q + 2, none⟩ = some (.string s.st)
  c3 : w.cell? ⟨b, q + 3, none⟩ = some (.int .i64 s.exp)
  c4 : w.cell? ⟨b, q + 4, none⟩ = some (.bool s.rep)
  c5 : w.cell? ⟨b, q + 5, none⟩ = some (.int .i64 s.prot)

/-- A slice of sessions that holds 'ss'. -/
def SRow (w : World) (a : Option Addr) (ss : List Sess) : Prop :=
  ss = [] ∨ ∃ b o, a = some ⟨b, o, none⟩ ∧ b < w.heap.size ∧ ∀ i s, ss[i]? = some s → Six w b (o + i * 6) s

theorem SRow.at {w : World} {a : Option Addr} {ss : List Sess} (h : SRow w a ss) {i : Nat} (hi : i < ss.length) :
    ∃ b o, a = some ⟨b, o, none⟩ ∧ b < w.heap.size ∧ ∃ s, ss[i]? = some s ∧ Six w b (o + i * 6) s := by
  rcases h with rfl | ⟨b, o, rfl, hb, hc⟩
  · simp at hi
  · exact ⟨b, o, rfl, hb, ss[i], List.getElem?_eq_getElem hi, hc i _ (List.getElem?_eq_getElem hi)⟩

/-- the call returned a bool; where it is true P holds -/
def RetIf (P : Prop) (e : Ending) : Prop := ∃ r, e = .returned (.bool r) ∧ (r = true → P)
theorem RetIf.no (P : Prop) : RetIf P (.returned (.bool false)) := ⟨false, rfl, fun h => by cases h⟩
theorem RetIf.yes {P : Prop} (h : P) : RetIf P (.returned (.bool true)) := ⟨true, rfl, fun _ => h⟩

/-- the first k sessions lie in the laws' domain -/
def Dom (ss : List Sess) (k : Nat) : Prop := ∀ j, j < k → ∀ s, ss[j]? = some s → 0 < s.num ∧ -4611686018427387904 < s.exp ∧ s.exp < 4611686018427387904
theorem Dom.zero (ss : List Sess) : Dom ss 0 := fun _ h => absurd h (Nat.not_lt_zero _)
theorem Dom.succ {ss : List Sess} {k : Nat} (h : Dom ss k) {s : Sess} (hs : ss[k]? = some s) (hl : 0 < s.num ∧ -4611686018427387904 < s.exp ∧ s.exp < 4611686018427387904) : Dom ss (k + 1) := by
  intro j hj t ht
  by_cases e : j = k
  · subst e; rw [hs] at ht; cases ht; exact hl
  · exact h j (by omega) t ht

/-- the laws' domain -/
def InDom (ss : List Sess) (n : Nat) (now : Int) : Prop := (-4611686018427387904 < now ∧ now < 4611686018427387904) ∧ Dom ss n
theorem InDom.mk {ss : List Sess} {n : Nat} {now : Int} (h : -4611686018427387904 < now ∧ now < 4611686018427387904) (d : Dom ss n) : InDom ss n now := ⟨h, d⟩

set_option maxHeartbeats 400000 in
theorem dom_any (a : Option Addr) (c : Nat) (ss : List Sess) (now : Int) (w : World) (hs : SRow w a ss) (hl : ss.length ≤ 9223372036854775807) :
    Calls Try.prog 9 #[.slice a ss.length c, .int .i64 now] w fun e w' => RetIf (InDom ss ss.length now) e ∧ w' = w := by
  generalize hn : ss.length = n at hl ⊢
  have HN := hide hn
  clear hn
  by_cases hnow : -4611686018427387904 < now ∧ now < 4611686018427387904
  case neg =>
    go_enter Try.func9, Try.ntmps9
    go_wp2
    all_goals first
      | (exfalso; omega)
      | (go_ret; exact ⟨RetIf.no _, rfl⟩)
  have HNOW := hide hnow
  obtain ⟨hn1, hn2⟩ := hnow
  go_enter Try.func9, Try.ntmps9
  go_wp2
  go_loop [14] (fun i => ∃ k : Nat, k ≤ n ∧ i = .int .i64 k ∧ Dom ss k) (fun i => n - (intOf i).toNat)
  case atStart => exact ⟨0, Nat.zero_le _, rfl, Dom.zero _⟩
  case round =>
    obtain ⟨k, hk, rfl, hsh⟩ := hrel
    have HSH := hide hsh
    clear hsh
    by_cases hlt : k < n
    · obtain ⟨b, o, rfl, hb, s, hsk, hsix⟩ := hs.at (i := k) (by rw [unhide HN]; exact hlt)
      obtain ⟨c0, c1, c2, c3, c4, c5⟩ := hsix
      have HSK := hide hsk
      clear hsk
      by_cases hd : 0 < s.num ∧ -4611686018427387904 < s.exp ∧ s.exp < 4611686018427387904
      · have HDD := hide hd
        obtain ⟨d1, d2, d3⟩ := hd
        go_wp2
        all_goals try (exfalso; omega)
        go_round
        case rel => exact ⟨k + 1, by omega, by go_num, (unhide HSH).succ (unhide HSK) (unhide HDD)⟩
        case measure => simp [intOf]; omega
      · go_wp2
        all_goals first
          | (go_ret; exact ⟨RetIf.no _, rfl⟩)
          | (exfalso; omega)
    · obtain rfl : k = n := by omega
      go_wp2
      go_ret
      exact ⟨RetIf.yes (InDom.mk (unhide HNOW) (unhide HSH)), rfl⟩

/-- the call returned an int -/
def RetInt (e : Ending) : Prop := ∃ t : Int, e = .returned (.int .i64 t)
theorem RetInt.mk (t : Int) : RetInt (.returned (.int .i64 t)) := ⟨t, rfl⟩

set_option maxHeartbeats 400000 in
/-- zzSessBytes: some number -/
theorem sessBytes_any (a : Option Addr) (c : Nat) (ss : List Sess) (w : World) (hs : SRow w a ss) (hl : ss.length ≤ 1048576) :
    Calls Try.prog 7 #[.slice a ss.length c] w fun e w' => RetInt e ∧ ∃ q, w' = w.drewN q := by
  generalize hn : ss.length = n at hl ⊢
  have HN := hide hn
  clear hn
  go_enter Try.func7, Try.ntmps7
  go_wp2
  go_loopw [3, 10] (fun t i wr => ∃ (k : Nat) (z : Int) (q : Nat), k ≤ n ∧ i = .int .i64 k ∧ t = .int .i64 z ∧ wr = w.drewN q) (fun _ i _ => n - (intOf i).toNat)
  case atStart => exact ⟨0, _, 0, Nat.zero_le _, rfl, rfl, rfl⟩
  case round =>
    obtain ⟨k, z, q, hk, rfl, rfl, rfl⟩ := hrel
    by_cases hlt : k < n
    · obtain ⟨b, o, rfl, hb, s, hsk, hsix⟩ := hs.at (i := k) (by rw [unhide HN]; exact hlt)
      obtain ⟨c0, c1, c2, c3, c4, c5⟩ := hsix
      clear hsk
      have hi : (k : Int) < (n : Int) := by omega
      go_wp2
      go_quiet (fail)
      go_wp2
      all_goals first
        | (go_ret; exact ⟨RetInt.mk _, _, rfl⟩)
        | (go_roundw
           case rel => exact ⟨k + 1, _, _, by omega, by go_num, rfl, rfl⟩
           case measure => simp [intOf]; omega)
    · go_wp2
      go_ret
      exact ⟨RetInt.mk _, _, rfl⟩

/-- is a later session laid under the number m? -/
def overB (ss : List Sess) (i : Nat) (m : Int) : Bool := (ss.drop (i + 1)).any fun s => s.num == m

end Go.Proofs.Qxb6615037a
