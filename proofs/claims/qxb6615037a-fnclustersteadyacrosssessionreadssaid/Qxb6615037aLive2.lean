/-
  record.
-/
import Derived.Test.Qxb6615037aLive1
namespace Go.Proofs.Qxb6615037a
open Go.RowKit Go.Maps

set_option maxHeartbeats 2000000 in
set_option maxRecDepth 100000 in
theorem record_any (st mb n : Nat) (D : DataW Unit) (M : Int → Option Sess) (k : Int) (s : Sess) (now : Int) (w : World) (hS : Store w st mb n D M) (hk : M k = some s) (hw : (Lit.int .i64 k).wf = true)
    (hnow : -4611686018427387904 < now ∧ now < 4611686018427387904) (hexp : -4611686018427387904 < s.exp ∧ s.exp < 4611686018427387904) :
    Calls Try.prog 36 #[.pointer (some ⟨st, 0, none⟩), .int .i64 k, .agg #[.int .u64 (now % 1000000000), .int .i64 (now / 1000000000), .pointer none]] w fun e w' =>
      e = .returned (.agg (recCells now s)) ∧ Below w.heap.size w w' := by
  have hcell := hS.cell
  have hlt := hS.lt
  have hnum := (hS.yes k s hk).1
  obtain ⟨p, hp, hlook⟩ := hS.look hk hw
  have hpl := (Array.getElem?_eq_some_iff.1 hp).1
  unfold recCells
  have hsub : ∀ W, Calls Try.prog 21 #[.agg #[.int .u64 (s.exp % 1000000000), .int .i64 (s.exp / 1000000000), .pointer none], .agg #[.int .u64 (now % 1000000000), .int .i64 (now / 1000000000), .pointer none]] W fun e w' => e = .returned (.int .i64 (s.exp - now)) ∧ Below W.heap.size W w' := by
    intro W
    have h := sub_any (s.exp % 1000000000) (s.exp / 1000000000) (now % 1000000000) (now / 1000000000) W (by omega) (by omega) (by omega) (by omega) (by omega)
    rw [show 1000000000 * (s.exp / 1000000000 - now / 1000000000) + (s.exp % 1000000000 - now % 1000000000) = s.exp - now from by omega] at h
    exact h
  have hliv : ∀ W, Below w.heap.size w W → Calls Try.prog 35 #[.pointer (some ⟨st, 0, none⟩), .int .i64 k, .agg #[.int .u64 (now % 1000000000), .int .i64 (now / 1000000000), .pointer none]] W fun e w' => e = .returned (.bool (decide (now < s.exp))) ∧ Below W.heap.size W w' :=
    fun W hW => liveAt_any st mb n D M k s now W (hS.on hW) hk hw
  generalize decide (now < s.exp) = lv at *
  generalize s.exp - now = lf at *
  generalize now % 1000000000 = a at *
  generalize now / 1000000000 = b at *
  have hcells : ∀ W, Below w.heap.size w W → W.cell? ⟨p, 0, none⟩ = some (.string s.id) ∧ W.cell? ⟨p, 1, none⟩ = some (.string s.st) ∧ W.cell? ⟨p, 2, none⟩ = some (.int .u64 (s.exp % 1000000000)) ∧ W.cell? ⟨p, 3, none⟩ = some (.int .i64 (s.exp / 1000000000)) ∧ W.cell? ⟨p, 4, none⟩ = some (.pointer none) ∧ W.cell? ⟨p, 5, none⟩ = some (.bool s.rep) ∧ W.cell? ⟨p, 6, none⟩ = some (.int .i64 s.prot) := by
    intro W hW
    have hc := cellOf hp hW
    exact ⟨hc 0, hc 1, hc 2, hc 3, hc 4, hc 5, hc 6⟩
  generalize s.exp % 1000000000 = c at *
  generalize s.exp / 1000000000 = d at *
  have HSUB := hide hsub
  have HLIV := hide hliv
  have HCELLS := hide hcells
  have HLOOK := hide hlook
  clear hS hlook hp hk hsub hliv hcells hnow hexp
  subst hnum
  have hal1 : Below w.heap.size w (w.alloc (.cells #[.int .u64 a, .int .i64 b, .pointer none] 51)) := (Below.refl _ w).alloc (Nat.le_refl _) _
  have hal2 : Below w.heap.size w ((w.alloc (.cells #[.int .u64 a, .int .i64 b, .pointer none] 51)).alloc (.cells #[.int .i64 0, .string ⟨#[]⟩, .string ⟨#[]⟩, .bool false, .bool false, .int .i64 0, .int .u64 0, .int .i64 0, .pointer none, .int .i64 0, .int .i64 0, .int .i64 0] 63)) := hal1.alloc (by simp) _
  have hl2 := (unhide HLOOK _ hal2).2
  have HAL2 := hide hal2
  have hz0 : ((w.alloc (.cells #[.int .u64 a, .int .i64 b, .pointer none] 51)).alloc (.cells #[.int .i64 0, .string ⟨#[]⟩, .string ⟨#[]⟩, .bool false, .bool false, .int .i64 0, .int .u64 0, .int .i64 0, .pointer none, .int .i64 0, .int .i64 0, .int .i64 0] 63)).heap[w.heap.size + 1]? = some (.cells #[.int .i64 0, .string ⟨#[]⟩, .string ⟨#[]⟩, .bool false, .bool false, .int .i64 0, .int .u64 0, .int .i64 0, .pointer none, .int .i64 0, .int .i64 0, .int .i64 0] 63) := by
    show ((w.heap.push _).push _)[w.heap.size + 1]? = _
    rw [Array.getElem?_push, if_pos (by simp)]
  obtain ⟨q0, q1, q2, q3, q4, q5, q6⟩ := unhide HCELLS _ hal2
  clear hal1 hal2
  go_enter Try.func36, Try.ntmps36
  go_wp2
  clear hl2 hcell
  have hn0 : ((w.alloc (.cells #[.int .u64 a, .int .i64 b, .pointer none] 51)).alloc (.cells #[.int .i64 0, .string ⟨#[]⟩, .string ⟨#[]⟩, .bool false, .bool false, .int .i64 0, .int .u64 0, .int .i64 0, .pointer none, .int .i64 0, .int .i64 0, .int .i64 0] 63)).cell? ⟨w.heap.size, 0, none⟩ = some (.int .u64 a) := by go_simp
  have hn1 : ((w.alloc (.cells #[.int .u64 a, .int .i64 b, .pointer none] 51)).alloc (.cells #[.int .i64 0, .string ⟨#[]⟩, .string ⟨#[]⟩, .bool false, .bool false, .int .i64 0, .int .u64 0, .int .i64 0, .pointer none, .int .i64 0, .int .i64 0, .int .i64 0] 63)).cell? ⟨w.heap.size, 1, none⟩ = some (.int .i64 b) := by go_simp
  have hn2 : ((w.alloc (.cells #[.int .u64 a, .int .i64 b, .pointer none] 51)).alloc (.cells #[.int .i64 0, .string ⟨#[]⟩, .string ⟨#[]⟩, .bool false, .bool false, .int .i64 0, .int .u64 0, .int .i64 0, .pointer none, .int .i64 0, .int .i64 0, .int .i64 0] 63)).cell? ⟨w.heap.size, 2, none⟩ = some (.pointer none) := by go_simp
  have hws : ((w.alloc (.cells #[.int .u64 a, .int .i64 b, .pointer none] 51)).alloc (.cells #[.int .i64 0, .string ⟨#[]⟩, .string ⟨#[]⟩, .bool false, .bool false, .int .i64 0, .int .u64 0, .int .i64 0, .pointer none, .int .i64 0, .int .i64 0, .int .i64 0] 63)).heap.size = w.heap.size + 2 := by simp
  have HWS := hide hws
  clear hws
  have HZ0 := hide hz0
  clear hz0
  generalize ((w.alloc (.cells #[.int .u64 a, .int .i64 b, .pointer none] 51)).alloc (.cells #[.int .i64 0, .string ⟨#[]⟩, .string ⟨#[]⟩, .bool false, .bool false, .int .i64 0, .int .u64 0, .int .i64 0, .pointer none, .int .i64 0, .int .i64 0, .int .i64 0] 63)) = W0 at *
  generalize hB : w.heap.size = B at *
  have hp1 : p < B + 1 := by omega
  have S0 : ∀ i o, i < B + 1 → W0.drew.cell? ⟨i, o, none⟩ = W0.cell? ⟨i, o, none⟩ := fun _ _ _ => rfl
  go_region_held3 (fun w' => ∀ i o, i < B + 1 → w'.cell? ⟨i, o, none⟩ = W0.cell? ⟨i, o, none⟩) (first | with_reducible exact S2 | with_reducible exact S1 | with_reducible exact S0 | exact fun i o hi => (keep12 (Nat.ne_of_lt hi)).trans (S2 i o hi))
    (first
      | (go_at_call 35; refine (unhide HLIV _ (unhide HAL2).drew).mono ?_; rintro e w1 ⟨rfl, hb1⟩; have hb1w : Below W0.heap.size W0 w1 := (Below.refl _ W0).drew.trans hb1; clear hb1; have S1 : ∀ i o, i < B + 1 → w1.cell? ⟨i, o, none⟩ = W0.cell? ⟨i, o, none⟩ := fun i o hi => hb1w.cell (p := ⟨i, o, none⟩) (by have := unhide HWS; show i < W0.heap.size; omega))
      | (go_at_call 21; refine (unhide HSUB _).mono ?_; rintro e w2 ⟨rfl, hb2⟩; have S2 : ∀ i o, i < B + 1 → w2.cell? ⟨i, o, none⟩ = W0.cell? ⟨i, o, none⟩ := fun i o hi => (hb2.cell (p := ⟨i, o, none⟩) (by have h1 := hb1w.size; have h2 := unhide HWS; show i < w1.heap.size; omega)).trans (S1 i o hi); have hz2 := zkeep (zkeep (unhide HZ0) hb1w) hb2; have zc := zcell hz2; have zf := zfree hz2; have HZ2 := hide hz2; clear hz2))
  have z3 := zcell (stored12 (v0 := .int .i64 s.num) (v1 := .string s.id) (v2 := .string s.st) (v3 := .bool s.rep) (v4 := .bool lv) (v5 := .int .i64 s.prot) (v6 := .int .u64 c) (v7 := .int .i64 d) (v8 := .pointer none) (v9 := .int .i64 lf) (v10 := .int .i64 0) (v11 := .int .i64 0) (unhide HZ2))
  have hb3 := below12 (v0 := .int .i64 s.num) (v1 := .string s.id) (v2 := .string s.st) (v3 := .bool s.rep) (v4 := .bool lv) (v5 := .int .i64 s.prot) (v6 := .int .u64 c) (v7 := .int .i64 d) (v8 := .pointer none) (v9 := .int .i64 lf) (v10 := .int .i64 0) (v11 := .int .i64 0) (B := B + 1) (((unhide HAL2).trans (hb1w.mono (by have := unhide HWS; omega))).trans (hb2.mono (by have := hb1w.size; have := unhide HWS; omega))) (by omega)
  generalize ((((((((((((w2.setCell _ _).setCell _ _).setCell _ _).setCell _ _).setCell _ _).setCell _ _).setCell _ _).setCell _ _).setCell _ _).setCell _ _).setCell _ _).setCell _ _) = W3 at *
  clear hn0 hn1 hn2 q0 q1 q2 q3 q4 q5 q6 zc zf S0 S1 S2
  go_wp2
  refine bodyPost_ret (v := .agg #[.int .i64 s.num, .string s.id, .string s.st, .bool s.rep, .bool lv, .int .i64 s.prot, .int .u64 c, .int .i64 d, .pointer none, .int .i64 lf, .int .i64 0, .int .i64 0]) ?_ rfl ⟨rfl, ?_⟩
  · simp [results, Try.results36, go_sem, z3]
  · rw [hB]; exact hb3
end Go.Proofs.Qxb6615037a
