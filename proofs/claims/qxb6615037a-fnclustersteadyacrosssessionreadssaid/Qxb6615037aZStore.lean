/-
  zzStore: the walk.
-/
import Derived.Test.Qxb6615037aStore
import Derived.Test.Qxb6615037aWant
namespace Go.Proofs.Qxb6615037a
open Go.RowKit

/-- the sessions' numbers and instants fit their kinds -/
def Fits (ss : List Sess) : Prop := ∀ (i : Nat) (s : Sess), ss[i]? = some s → (Lit.int .i64 s.num).wf = true ∧ -9223372036854775808 ≤ s.exp ∧ s.exp ≤ 9223372036854775807

set_option maxHeartbeats 1000000 in
set_option maxRecDepth 100000 in
theorem zstore_any (a : Option Addr) (c : Nat) (ss : List Sess) (shards replicas term leader revision made : Int) (w : World) (hs : SRow w a ss) (hl : ss.length ≤ 4096) (hfit : Fits ss) (h : 0 ≤ shards ∧ shards ≤ 1000000) :
    Calls Try.prog 10 #[.int .i64 shards, .int .i64 replicas, .int .i64 term, .int .i64 leader, .int .i64 revision, .int .i64 made, .slice a ss.length c] w fun e w' =>
      ∃ st mb n D, e = .returned (.pointer (some ⟨st, 0, none⟩)) ∧ Store w' st mb n D (mapOf ss) ∧ n ≤ 4096 ∧ Clus w' st shards replicas term leader revision made ∧ Below w.heap.size w w' := by
  have HM : Hid (mapOf ss = mapOf (ss.take ss.length)) := by rw [List.take_length]; exact hide rfl
  generalize hn : ss.length = n at hl HM ⊢
  have HN := hide hn
  clear hn
  have HS := hide hs
  have HF := hide hfit
  clear hs hfit
  go_enter Try.func10, Try.ntmps10
  go_wp2
  go_loop [15, 23] (fun t i => ∃ (k : Nat) (z : Int), k ≤ n ∧ i = .int .i64 k ∧ t = .int .i64 z) (fun _ i => n - (intOf i).toNat)
  case atStart => exact ⟨0, _, Nat.zero_le _, rfl, rfl⟩
  case round =>
    obtain ⟨k, z, hk, rfl, rfl⟩ := hrel
    by_cases hlt : k < n
    · obtain ⟨b, o, rfl, hb, s, hsk, hsix⟩ := (unhide HS).at (i := k) (by rw [unhide HN]; exact hlt)
      obtain ⟨c0, c1, c2, c3, c4, c5⟩ := hsix
      clear hsk
      go_wp2
      all_goals
        go_round
        case rel => exact ⟨k + 1, _, by omega, by go_num, rfl⟩
        case measure => simp [intOf]; omega
    · go_wp2_with fail
      refine (newStore_any shards replicas term leader revision made z w h).mono ?_
      rintro e w1 ⟨st, mb, D, rfl, hS, hC, hmb, hst, hbel⟩
      have HS0 := hide hS
      have HC0 := hide hC
      have HB0 := hide hbel
      clear hS hC hbel
      go_wp2
      go_loopw [49] (fun i wr => ∃ (j : Nat) (D : DataW Unit), j ≤ n ∧ i = .int .i64 j ∧ Store wr st mb j D (mapOf (ss.take j)) ∧ Clus wr st shards replicas term leader revision made ∧ Below w.heap.size w wr) (fun i _ => n - (intOf i).toNat)
      case atStart => exact ⟨0, D, Nat.zero_le _, rfl, unhide HS0, unhide HC0, unhide HB0⟩
      case round =>
        obtain ⟨j, D1, hj, rfl, hS, hC, hbel⟩ := hrel
        by_cases hjn : j < n
        · have hsr := (unhide HS).on (Nat.le_refl _) hbel
          obtain ⟨b, o, rfl, hb, s, hsk, hsix⟩ := hsr.at (i := j) (by rw [unhide HN]; exact hjn)
          obtain ⟨c0, c1, c2, c3, c4, c5⟩ := hsix
          have HSK := hide hsk
          have HS1 := hide hS
          have HC1 := hide hC
          have HB1 := hide hbel
          clear hsk hS hC hbel hsr
          go_wp2_with fail
          have hal := (Below.refl wr.heap.size wr).alloc (Nat.le_refl _) (.cells #[.int .i64 s.num, .string s.id, .string s.st, .int .i64 s.exp, .bool s.rep, .int .i64 s.prot] 36)
          have hS1 := (unhide HS1).on hal
          refine (addSession_any st mb j D1 (mapOf (ss.take j)) s _ hS1 (by omega) (unhide HF j s (unhide HSK)).1 (unhide HF j s (unhide HSK)).2).mono ?_
          rintro e w2 ⟨rfl, ⟨D2, hS2⟩, hg2⟩
          have hC2 := ((unhide HC1).on hal (unhide HS1).lt).grown hg2 hS1.lt hS1.ne
          have hB2 : Below w.heap.size w w2 := ((unhide HB1).alloc (unhide HB1).size _).grown hg2 (by have := (unhide HB1).size; simp; omega) (fun k hk => by cases hk; exact hmb)
          rw [← mapOf_succ (unhide HSK)] at hS2
          have HS2 := hide hS2
          have HC2 := hide hC2
          have HB2 := hide hB2
          clear hS2 hC2 hB2 hS1 hal hg2 c0 c1 c2 c3 c4 c5
          go_wp2
          go_roundw
          case rel => exact ⟨j + 1, D2, by omega, by go_num, unhide HS2, unhide HC2, unhide HB2⟩
          case measure => simp [intOf]; omega
        · obtain rfl : j = n := by omega
          have HS1 := hide hS
          have HC1 := hide hC
          have HB1 := hide hbel
          clear hS hC hbel
          go_wp2
          go_ret
          exact ⟨st, mb, j, D1, rfl, by rw [unhide HM]; exact unhide HS1, hl, unhide HC1, unhide HB1⟩
end Go.Proofs.Qxb6615037a
