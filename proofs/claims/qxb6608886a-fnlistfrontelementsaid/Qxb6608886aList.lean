/-
  list, ZZlist: by strings.Join's contract, which is handed in.
-/
import Derived.Test.Qxb6608886aParts
import Derived.Test.Qxb6608886aPlain
import Derived.Deep.RegionWith
namespace Go.Proofs.Qxb6608886a
open Go.RowKit

/-- strings.Join over this program. -/
def JoinSaid : Prop := ∀ (bk o c : Nat) (xs : List ByteArray) (sep : ByteArray) (w : World)
    (_ : ∀ (j : Nat) x, xs[j]? = some x → w.cell? ⟨bk, o + j, none⟩ = some (.string x))
    (_ : bk < w.heap.size) (_ : xs.length ≤ 140737488355328) (_ : xs.length ≤ c)
    (_ : (Lib.join (xs.map (·.data.toList)) sep.data.toList).length ≤ 140737488355328),
    Calls Try.prog 16 #[.slice (some ⟨bk, o, none⟩) xs.length c, .string sep] w fun e w' => e = .returned (.string ⟨(Lib.join (xs.map (·.data.toList)) sep.data.toList).toArray⟩) ∧ Below w.heap.size w w'

theorem hide {p : Prop} (h : p) : Hid p := h
theorem unhide {p : Prop} (h : Hid p) : p := h

set_option maxHeartbeats 400000 in
theorem list_one (b o c : Nat) (x : ByteArray) (w : World) (hc : w.cell? ⟨b, o, none⟩ = some (.string x)) :
    Calls Try.prog 15 #[.slice (some ⟨b, o, none⟩) 1 c] w fun e w' => e = .returned (.string x) ∧ w' = w := by
  go_enter Try.func15, Try.ntmps15
  go_wp2
  go_ret
  exact ⟨rfl, rfl⟩

set_option maxHeartbeats 400000 in
theorem list_many (hJ : JoinSaid) (b o m c : Nat) (xs : List ByteArray) (y : ByteArray) (w : World) (hm : xs.length = m) (h1 : 1 ≤ m) (hmc : m + 1 ≤ c) (hcm : c ≤ 140737488355328)
    (hcells : ∀ (j : Nat) x, xs[j]? = some x → w.cell? ⟨b, o + j, none⟩ = some (.string x)) (hy : w.cell? ⟨b, o + m, none⟩ = some (.string y)) (hb : b < w.heap.size)
    (hlen : (Lib.join (xs.map (·.data.toList)) sepL).length ≤ 140737488355328) (hylen : y.size ≤ 140737488355328) :
    Calls Try.prog 15 #[.slice (some ⟨b, o, none⟩) (m + 1) c] w fun e w' => e = .returned (.string (⟨(Lib.join (xs.map (·.data.toList)) sepL).toArray⟩ ++ ⟨andL.toArray⟩ ++ y)) ∧ Below w.heap.size w w' := by
  have hj : Calls Try.prog 16 #[.slice (some ⟨b, o, none⟩) m c, .string ⟨#[44, 32]⟩] w.drew fun e w' => e = .returned (.string ⟨(Lib.join (xs.map (·.data.toList)) sepL).toArray⟩) ∧ Below w.heap.size w w' := by
    have := hJ b o c xs ⟨#[44, 32]⟩ w.drew hcells hb (by omega) (by omega) hlen
    rw [hm] at this
    exact this.mono fun e w' ⟨he, hb⟩ => ⟨he, (Below.refl _ w).drew.trans hb⟩
  have hne : ((m : Int) == 0) = false := by simp; omega
  have HC := hide hcells
  have HM := hide hm
  clear hm hcells
  generalize hT : (⟨(Lib.join (xs.map (·.data.toList)) sepL).toArray⟩ : ByteArray) = T at *
  have hTl : T.size ≤ 140737488355328 := by rw [← hT]; simpa [ByteArray.size] using hlen
  clear hT hlen HC HM
  have HJ := hide hj
  clear hj
  go_enter Try.func15, Try.ntmps15
  go_wp2
  have hmi : (m : Int) < (m : Int) + 1 := by omega
  go_region_with (go_at_call 16; refine (unhide HJ).mono ?_; rintro e w1 ⟨rfl, hb1⟩; have hy1 := (hb1.cell (p := ⟨b, o + m, none⟩) hb).trans hy)
  all_goals
    go_wp2
    go_ret
    exact ⟨rfl, hb1⟩

theorem zzlist_one (b o c : Nat) (x : ByteArray) (w : World) (hc : w.cell? ⟨b, o, none⟩ = some (.string x)) :
    Calls Try.prog 10 #[.slice (some ⟨b, o, none⟩) 1 c] w fun e w' => e = .returned (.string x) ∧ w' = w := by
  go_enter Try.func10, Try.ntmps10
  go_wp2_with fail
  refine (list_one b o c x w hc).mono ?_
  rintro e w' ⟨rfl, rfl⟩
  go_wp2
  go_ret
  exact ⟨rfl, rfl⟩

theorem zzlist_many (hJ : JoinSaid) (b o m c : Nat) (xs : List ByteArray) (y : ByteArray) (w : World) (hm : xs.length = m) (h1 : 1 ≤ m) (hmc : m + 1 ≤ c) (hcm : c ≤ 140737488355328)
    (hcells : ∀ (j : Nat) x, xs[j]? = some x → w.cell? ⟨b, o + j, none⟩ = some (.string x)) (hy : w.cell? ⟨b, o + m, none⟩ = some (.string y)) (hb : b < w.heap.size)
    (hlen : (Lib.join (xs.map (·.data.toList)) sepL).length ≤ 140737488355328) (hylen : y.size ≤ 140737488355328) :
    Calls Try.prog 10 #[.slice (some ⟨b, o, none⟩) (m + 1) c] w fun e w' => e = .returned (.string (⟨(Lib.join (xs.map (·.data.toList)) sepL).toArray⟩ ++ ⟨andL.toArray⟩ ++ y)) ∧ Below w.heap.size w w' := by
  have hl := list_many hJ b o m c xs y w hm h1 hmc hcm hcells hy hb hlen hylen
  generalize hT : (⟨(Lib.join (xs.map (·.data.toList)) sepL).toArray⟩ ++ ⟨andL.toArray⟩ ++ y : ByteArray) = T at *
  have HL := hide hl
  clear hl hT hcells hm
  go_enter Try.func10, Try.ntmps10
  go_wp2_with fail
  refine (unhide HL).mono ?_
  rintro e w' ⟨rfl, hb1⟩
  go_wp2
  go_ret
  exact ⟨rfl, hb1⟩
end Go.Proofs.Qxb6608886a
