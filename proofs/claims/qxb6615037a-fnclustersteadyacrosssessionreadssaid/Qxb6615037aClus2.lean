/-
  ZZRecordsCluster, zzRecordIs, zzClusterDomain.
-/
import Derived.Test.Qxb6615037aClus
import Derived.Deep.QuietTactic
import Derived.BigQuiet
namespace Go.Proofs.Qxb6615037a
open Go.RowKit Go.Maps

set_option maxHeartbeats 2000000 in
set_option maxRecDepth 100000 in
theorem zzrec_any (st : Nat) (now a b c d e f : Int) (w : World) (hC : Clus w st a b c d e f) (hst : st < w.heap.size) (hnow : -4611686018427387904 < now ∧ now < 4611686018427387904) :
    Calls Try.prog 18 #[.pointer (some ⟨st, 0, none⟩), .int .i64 now] w fun en w' =>
      en = .returned (.tuple #[.int .i64 a, .int .i64 b, .int .i64 c, .int .i64 d, .int .i64 e, .int .i64 f, .bool (a != 0), .bool true]) ∧ Below w.heap.size w w' := by
  have HC := hide hC
  clear hC
  go_enter Try.func18, Try.ntmps18
  go_wp2_with fail
  refine (instant_any now _ (by omega)).mono ?_
  rintro en w1 ⟨rfl, hb1⟩
  simp only [T]
  have HB1 := hide hb1
  have hst1 : st < w1.heap.size := Nat.lt_of_lt_of_le hst hb1.size
  have HC1 := hide ((unhide HC).on hb1 hst)
  clear hb1
  go_wp2_with fail
  refine (cluster_any st a b c d e f _ _ _ _ (unhide HC1) hst1).mono ?_
  rintro en w2 ⟨rfl, hb2⟩
  have HB2 := hide hb2
  clear hb2
  go_wp2
  go_quiet (fail)
  go_wp2
  refine bodyPost_ret (v := .tuple #[.int .i64 a, .int .i64 b, .int .i64 c, .int .i64 d, .int .i64 e, .int .i64 f, .bool (a != 0), .bool true]) (by simp [results, Try.results18]) rfl ⟨rfl, ?_⟩
  have hbb : Below w.heap.size w w2 := (unhide HB1).trans ((unhide HB2).mono (unhide HB1).size)
  have hb4 := hbb.alloc hbb.size (.cells #[.int .i64 a, .int .i64 b, .int .i64 c, .int .i64 d, .int .i64 e, .int .i64 f] 86)
  exact ⟨hb4.os, hb4.tape, hb4.output, hb4.size, hb4.block⟩

/-- zzRecordIs: true where the store's record is that record -/
theorem recIs_any (st : Nat) (now a b c d e f : Int) (w : World) (hC : Clus w st a b c d e f) (hst : st < w.heap.size) (hnow : -4611686018427387904 < now ∧ now < 4611686018427387904) :
    Calls Try.prog 11 #[.pointer (some ⟨st, 0, none⟩), .int .i64 now, .int .i64 a, .int .i64 b, .int .i64 c, .int .i64 d, .int .i64 e, .int .i64 f] w fun en w' => en = .returned (.bool true) ∧ Below w.heap.size w w' := by
  have HZ := hide (zzrec_any st now a b c d e f w hC hst hnow)
  clear hC
  go_enter Try.func11, Try.ntmps11
  go_wp2_with fail
  refine (unhide HZ).mono ?_
  rintro en w2 ⟨rfl, hb2⟩
  have HB2 := hide hb2
  clear hb2
  go_wp2
  go_ret
  exact ⟨rfl, unhide HB2⟩

/-- zzClusterDomain: where it is true the number of shards lies in its bounds -/
theorem cdom_any (a b c d e f : Int) (w : World) :
    Calls Try.prog 8 #[.int .i64 a, .int .i64 b, .int .i64 c, .int .i64 d, .int .i64 e, .int .i64 f] w fun en w' => RetIf (0 ≤ a ∧ a ≤ 65536) en ∧ w' = w := by
  by_cases h1 : a < 0
  · go_enter Try.func8, Try.ntmps8
    go_wp2
    go_ret
    exact ⟨RetIf.no _, rfl⟩
  by_cases h2 : 65536 < a
  · go_enter Try.func8, Try.ntmps8
    go_wp2
    go_ret
    exact ⟨RetIf.no _, rfl⟩
  have hin : 0 ≤ a ∧ a ≤ 65536 := by omega
  go_enter Try.func8, Try.ntmps8
  go_wp2
  all_goals
    go_ret
    first
      | exact ⟨RetIf.no _, rfl⟩
      | exact ⟨⟨_, rfl, fun _ => trivial⟩, rfl⟩
      | exact ⟨⟨_, rfl, fun _ => hin⟩, rfl⟩
end Go.Proofs.Qxb6615037a
