/-
  OtherProtocols, ZZOtherProtocols.
-/
import Derived.Test.Qxb6615037aOther
namespace Go.Proofs.Qxb6615037a
open Go.RowKit Go.Maps

/-- L: the live sessions of M of other protocols, by rising number -/
structure IsOthers (M : Int → Option Sess) (now : Int) (L : List Sess) : Prop where
  sorted : L.Pairwise fun a b => a.num < b.num
  mem : ∀ s, s ∈ L ↔ (M s.num = some s ∧ now < s.exp ∧ s.prot ≠ 5)

theorem IsLive.others {M : Int → Option Sess} {now : Int} {L : List Sess} (h : IsLive M now L) : IsOthers M now (L.filter isOther) := by
  refine ⟨h.sorted.filter _, fun s => ?_⟩
  rw [List.mem_filter, h.mem]
  simp [isOther, and_assoc]

set_option maxHeartbeats 2000000 in
set_option maxRecDepth 100000 in
theorem otherProtocols_any (st mb n : Nat) (D : DataW Unit) (M : Int → Option Sess) (now : Int) (w : World) (hS : Store w st mb n D M) (hn : n ≤ 4096) (hnow : -4611686018427387904 < now ∧ now < 4611686018427387904)
    (hexp : ∀ k s, M k = some s → -4611686018427387904 < s.exp ∧ s.exp < 4611686018427387904) :
    Calls Try.prog 20 #[.agg #[.pointer (some ⟨st, 0, none⟩), .int .u64 (now % 1000000000), .int .i64 (now / 1000000000), .pointer none]] w fun e w' =>
      ∃ v L, e = .returned (.tuple #[v, .nilIface]) ∧ w'.ownsRow w.heap.size 63 12 v L.length (L.flatMap (recL now)) ∧ IsOthers M now L ∧ L.length ≤ 4096 ∧ Below w.heap.size w w' := by
  have HL := hide (fun W (hW : Below w.heap.size w W) => live_any st mb n D M now W (hS.on hW) hn hnow hexp)
  clear hS hexp hnow
  generalize hA : now % 1000000000 = a at *
  generalize hB : now / 1000000000 = b at *
  clear hA hB
  go_enter Try.func20, Try.ntmps20
  go_wp2_with fail
  refine (unhide HL _ ((Below.refl _ w).alloc (Nat.le_refl _) _)).mono ?_
  rintro e w1 ⟨v, L, rfl, hown, hlive, hlen, hb⟩
  have HLV := hide hlive
  have HO := hide hown
  have HB := hide hb
  clear hlive hown hb
  go_wp2_with fail
  refine (others_any _ now v L _ (unhide HO) hlen).mono ?_
  rintro e w2 ⟨v', rfl, hown2, hb2⟩
  have HO2 := hide hown2
  have HB2 := hide hb2
  clear hown2 hb2
  go_wp2
  go_ret2
  have hs1 := (unhide HB).size
  simp at hs1
  refine ⟨v', L.filter isOther, rfl, ownsRow_mono (unhide HO2) (by omega), (unhide HLV).others, Nat.le_trans (List.length_filter_le _ _) hlen, ?_⟩
  exact (((Below.refl _ w).alloc (Nat.le_refl _) _).trans ((unhide HB).mono (by simp))).trans ((unhide HB2).mono (by omega))
end Go.Proofs.Qxb6615037a
