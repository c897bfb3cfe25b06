/-
  The words of the walks; zzBytes, nestedBytes.
-/
import Derived.WalkKit
import Derived.Below
import Derived.LoopTactic
import Derived.Deep.QuietTactic
import Derived.BigQuiet
import Derived.Test.Qxb6615079aProg
namespace Go.Proofs.Qxb6615079a
open Go.RowKit

/-- a fact that the walk's own steps shall not see -/
def Hid (p : Prop) : Prop := p
theorem hide {p : Prop} (h : p) : Hid p := h
theorem unhide {p : Prop} (h : Hid p) : p := h

/-- the call returned an int -/
def RetInt (e : Ending) : Prop := ∃ t : Int, e = .returned (.int .i64 t)
theorem RetInt.mk (t : Int) : RetInt (.returned (.int .i64 t)) := ⟨t, rfl⟩
/-- the call returned a bool; where it is true P holds -/
def RetIf (P : Prop) (e : Ending) : Prop := ∃ r, e = .returned (.bool r) ∧ (r = true → P)
theorem RetIf.no (P : Prop) : RetIf P (.returned (.bool false)) := ⟨false, rfl, fun h => by cases h⟩
theorem RetIf.yes {P : Prop} (h : P) : RetIf P (.returned (.bool true)) := ⟨true, rfl, fun _ => h⟩

/-- a slice of one-celled values -/
def VRow (w : World) (a : Option Addr) (vs : List Value) : Prop :=
  vs = [] ∨ ∃ b o, a = some ⟨b, o, none⟩ ∧ b < w.heap.size ∧ ∀ i v, vs[i]? = some v → w.cell? ⟨b, o + i, none⟩ = some v

theorem VRow.at {w : World} {a : Option Addr} {vs : List Value} (h : VRow w a vs) {i : Nat} (hi : i < vs.length) :
    ∃ b o, a = some ⟨b, o, none⟩ ∧ b < w.heap.size ∧ ∃ v, vs[i]? = some v ∧ w.cell? ⟨b, o + i, none⟩ = some v := by
  rcases h with rfl | ⟨b, o, rfl, hb, hc⟩
  · simp at hi
  · exact ⟨b, o, rfl, hb, vs[i], List.getElem?_eq_getElem hi, hc i _ (List.getElem?_eq_getElem hi)⟩

theorem VRow.on {w w' : World} {a : Option Addr} {vs : List Value} {B : Nat} (h : VRow w a vs) (hB : w.heap.size ≤ B) (hb : Below B w w') : VRow w' a vs := by
  rcases h with rfl | ⟨b, o, rfl, hbl, hc⟩
  · exact .inl rfl
  · exact .inr ⟨b, o, rfl, Nat.lt_of_lt_of_le hbl hb.size, fun i v hv => (hb.cell (p := ⟨b, o + i, none⟩) (Nat.lt_of_lt_of_le hbl hB)).trans (hc i v hv)⟩

/-- a slice of uint32 inside a slice -/
structure In where
  a : Option Addr
  xs : List Int
  cap : Nat

def In.val (c : In) : Value := .slice c.a c.xs.length c.cap

/-- a slice of such slices -/
structure NRow (w : World) (a : Option Addr) (cs : List In) : Prop where
  row : VRow w a (cs.map In.val)
  each : ∀ c ∈ cs, VRow w c.a (c.xs.map (Value.int .u32)) ∧ (c.a = none → c.xs = [] ∧ c.cap = 0)

theorem NRow.on {w w' : World} {a : Option Addr} {cs : List In} {B : Nat} (h : NRow w a cs) (hB : w.heap.size ≤ B) (hb : Below B w w') : NRow w' a cs :=
  ⟨h.row.on hB hb, fun c hc => ⟨(h.each c hc).1.on hB hb, (h.each c hc).2⟩⟩

theorem NRow.at {w : World} {a : Option Addr} {cs : List In} (h : NRow w a cs) {i : Nat} (hi : i < cs.length) :
    ∃ b o, a = some ⟨b, o, none⟩ ∧ b < w.heap.size ∧ ∃ c, cs[i]? = some c ∧ w.cell? ⟨b, o + i, none⟩ = some (.slice c.a c.xs.length c.cap) := by
  obtain ⟨b, o, rfl, hb, v, hv, hc⟩ := h.row.at (i := i) (by simpa using hi)
  rw [List.getElem?_map, List.getElem?_eq_getElem hi] at hv
  simp at hv
  subst hv
  exact ⟨b, o, rfl, hb, cs[i], List.getElem?_eq_getElem hi, hc⟩

/-- the first k inner slices are short -/
def Short (cs : List In) (k : Nat) : Prop := ∀ j, j < k → ∀ c, cs[j]? = some c → c.xs.length ≤ 1048576
theorem Short.zero (cs : List In) : Short cs 0 := fun _ h => absurd h (Nat.not_lt_zero _)
theorem Short.succ {cs : List In} {k : Nat} (h : Short cs k) {c : In} (hc : cs[k]? = some c) (hl : c.xs.length ≤ 1048576) : Short cs (k + 1) := by
  intro j hj t ht
  by_cases e : j = k
  · subst e; rw [hc] at ht; cases ht; exact hl
  · exact h j (by omega) t ht

/-- the sizes that zzBytes lets by -/
structure Sizes (cs ps : List In) (n m k l : Nat) : Prop where
  cl : n ≤ 1048576
  sl : m ≤ 1048576
  vl : k ≤ 1048576
  pl : l ≤ 1048576
  ci : Short cs n
  pi : Short ps l

set_option maxHeartbeats 1000000 in
set_option maxRecDepth 100000 in
theorem bytes_any (a0 a2 a3 a4 : Option Addr) (c0 c2 c3 c4 : Nat) (cs ps : List In) (m k : Nat) (x1 x5 x6 x7 x10 : Int) (name : ByteArray) (at9 : Bool) (w : World) (hc : NRow w a0 cs) (hp : NRow w a4 ps)
    (l0 : cs.length ≤ 9223372036854775807) (l2 : m ≤ 9223372036854775807) (l3 : k ≤ 9223372036854775807) (l4 : ps.length ≤ 9223372036854775807) (l8 : name.size ≤ 9223372036854775807) :
    Calls Try.prog 41 #[.slice a0 cs.length c0, .int .i64 x1, .slice a2 m c2, .slice a3 k c3, .slice a4 ps.length c4, .int .i64 x5, .int .i64 x6, .int .i64 x7, .string name, .bool at9, .int .i64 x10] w fun e w' => RetIf (Sizes cs ps cs.length m k ps.length) e ∧ w' = w := by
  generalize hn : cs.length = n at l0 ⊢
  have HN := hide hn
  clear hn
  generalize hl : ps.length = l at l4 ⊢
  have HL := hide hl
  clear hl
  have HC := hide hc
  have HP := hide hp
  clear hc hp
  go_enter Try.func41, Try.ntmps41
  by_cases h0 : (1048576 : Int) < n
  · go_wp2
    go_ret
    exact ⟨RetIf.no _, rfl⟩
  go_wp2
  go_loopw [23, 24] (fun t i wr => ∃ (j : Nat) (z : Int), j ≤ n ∧ i = .int .i64 j ∧ t = .int .i64 z ∧ 0 ≤ z ∧ z ≤ 1048576 ∧ Short cs j ∧ wr = w) (fun _ i _ => n - (intOf i).toNat)
  case atStart => exact ⟨0, n, Nat.zero_le _, rfl, rfl, by omega, by omega, Short.zero _, rfl⟩
  case round =>
    obtain ⟨j, z, hj, rfl, rfl, hz0, hz1, hsh, hwr⟩ := hrel
    subst hwr
    have HSH := hide hsh
    clear hsh
    by_cases hlt : j < n
    · obtain ⟨b, o, rfl, hb, ci, hci, hcell⟩ := (unhide HC).at (i := j) (by rw [unhide HN]; exact hlt)
      have HCI := hide hci
      clear hci
      by_cases h1 : (1048576 : Int) < ci.xs.length
      · go_wp2
        go_ret
        exact ⟨RetIf.no _, rfl⟩
      by_cases h2 : (1048576 : Int) < z + ci.xs.length
      · go_wp2
        go_ret
        exact ⟨RetIf.no _, rfl⟩
      go_wp2
      go_roundw
      case rel => exact ⟨j + 1, z + ci.xs.length, by omega, by go_num, rfl, by omega, by omega, (unhide HSH).succ (unhide HCI) (by omega), by first | rfl | trivial⟩
      case measure => simp [intOf]; omega
    · have hjn : j = n := by omega
      subst hjn
      by_cases h3 : (1048576 : Int) < m
      · go_wp2
        go_ret
        exact ⟨RetIf.no _, rfl⟩
      by_cases h4 : (1048576 : Int) < z + m
      · go_wp2
        go_ret
        exact ⟨RetIf.no _, rfl⟩
      by_cases h5 : (1048576 : Int) < k
      · go_wp2
        go_ret
        exact ⟨RetIf.no _, rfl⟩
      by_cases h6 : (1048576 : Int) < z + m + k
      · go_wp2
        go_ret
        exact ⟨RetIf.no _, rfl⟩
      by_cases h7 : (1048576 : Int) < l
      · go_wp2
        go_ret
        exact ⟨RetIf.no _, rfl⟩
      by_cases h8 : (1048576 : Int) < z + m + k + l
      · go_wp2
        go_ret
        exact ⟨RetIf.no _, rfl⟩
      go_wp2
      go_loopw [23, 25] (fun t i wr2 => ∃ (q : Nat) (y : Int), q ≤ l ∧ i = .int .i64 q ∧ t = .int .i64 y ∧ 0 ≤ y ∧ y ≤ 1048576 ∧ Short ps q ∧ wr2 = wr) (fun _ i _ => l - (intOf i).toNat)
      case atStart => exact ⟨0, z + m + k + l, Nat.zero_le _, rfl, rfl, by omega, by omega, Short.zero _, by first | rfl | trivial⟩
      case round =>
        obtain ⟨q, y, hq, rfl, rfl, hy0, hy1, hsh, hwr⟩ := hrel
        subst hwr
        have HSP := hide hsh
        clear hsh
        by_cases hlt2 : q < l
        · obtain ⟨b, o, rfl, hb, ci, hci, hcell⟩ := (unhide HP).at (i := q) (by rw [unhide HL]; exact hlt2)
          have HCI := hide hci
          clear hci
          by_cases h9 : (1048576 : Int) < ci.xs.length
          · go_wp2
            go_ret
            exact ⟨RetIf.no _, rfl⟩
          by_cases h10 : (1048576 : Int) < y + ci.xs.length
          · go_wp2
            go_ret
            exact ⟨RetIf.no _, rfl⟩
          go_wp2
          go_roundw
          case rel => exact ⟨q + 1, y + ci.xs.length, by omega, by go_num, rfl, by omega, by omega, (unhide HSP).succ (unhide HCI) (by omega), by first | rfl | trivial⟩
          case measure => simp [intOf]; omega
        · have hql : q = l := by omega
          subst hql
          have HZ := hide (Sizes.mk (by omega) (by omega) (by omega) (by omega) (unhide HSH) (unhide HSP) : Sizes cs ps j m k q)
          by_cases h11 : (1048576 : Int) < name.size
          · go_wp2
            go_ret
            exact ⟨RetIf.no _, rfl⟩
          by_cases h12 : (1048576 : Int) < y + name.size
          · go_wp2
            go_ret
            exact ⟨RetIf.no _, rfl⟩
          go_wp2
          go_ret
          exact ⟨RetIf.yes (unhide HZ), rfl⟩
end Go.Proofs.Qxb6615079a
