/-
  OfOtherProtocols.
-/
import Derived.Test.Qxb6615037aLive4
import Derived.Test.Qxb6615037aOwn
namespace Go.Proofs.Qxb6615037a
open Go.RowKit Go.Maps

theorem own_at {w : World} {base e g n cap : Nat} {now : Int} {L : List Sess} (h : w.ownsRow base e 12 (.slice (some ⟨g, 0, none⟩) n cap) n (L.flatMap (recL now))) {k : Nat} {s : Sess} (hk : L[k]? = some s) {j : Nat} {u : Value} (hj : (recL now s)[j]? = some u) :
    w.cell? ⟨g, k * 12 + j, none⟩ = some u := by
  rcases h.2 with ⟨e0, _⟩ | ⟨g', cap', cur, e0, hb, hg, hn, hm, hs, ht⟩
  · cases e0
  · injection e0 with e1 _ e3
    injection e1 with e1
    injection e1 with e1
    subst e1; subst e3
    have hj12 : j < 12 := by
      have := (List.getElem?_eq_some_iff.1 hj).1
      rwa [recL_len] at this
    have hf := flat_get (recL now) 12 (by omega) (recL_len now) L (k * 12 + j)
    rw [show (k * 12 + j) / 12 = k by omega, show (k * 12 + j) % 12 = j by omega, hk] at hf
    simp only [Option.bind_some] at hf
    rw [hj, ← ht, List.getElem?_take] at hf
    split at hf
    · rw [Array.getElem?_toList] at hf
      unfold World.cell?
      rw [hg]
      simpa using hf
    · cases hf

theorem own_cells {w : World} {base e g n cap : Nat} {now : Int} {L : List Sess} (h : w.ownsRow base e 12 (.slice (some ⟨g, 0, none⟩) n cap) n (L.flatMap (recL now))) {k : Nat} {s : Sess} (hk : L[k]? = some s) :
    w.cell? ⟨g, k * 12, none⟩ = some (.int .i64 s.num) ∧ w.cell? ⟨g, k * 12 + 1, none⟩ = some (.string s.id) ∧ w.cell? ⟨g, k * 12 + 2, none⟩ = some (.string s.st) ∧ w.cell? ⟨g, k * 12 + 3, none⟩ = some (.bool s.rep) ∧
    w.cell? ⟨g, k * 12 + 4, none⟩ = some (.bool (decide (now < s.exp))) ∧ w.cell? ⟨g, k * 12 + 5, none⟩ = some (.int .i64 s.prot) ∧ w.cell? ⟨g, k * 12 + 6, none⟩ = some (.int .u64 (s.exp % 1000000000)) ∧ w.cell? ⟨g, k * 12 + 7, none⟩ = some (.int .i64 (s.exp / 1000000000)) ∧
    w.cell? ⟨g, k * 12 + 8, none⟩ = some (.pointer none) ∧ w.cell? ⟨g, k * 12 + 9, none⟩ = some (.int .i64 (s.exp - now)) ∧ w.cell? ⟨g, k * 12 + 10, none⟩ = some (.int .i64 0) ∧ w.cell? ⟨g, k * 12 + 11, none⟩ = some (.int .i64 0) :=
  ⟨own_at h hk (j := 0) rfl, own_at h hk (j := 1) rfl, own_at h hk (j := 2) rfl, own_at h hk (j := 3) rfl, own_at h hk (j := 4) rfl, own_at h hk (j := 5) rfl, own_at h hk (j := 6) rfl, own_at h hk (j := 7) rfl, own_at h hk (j := 8) rfl, own_at h hk (j := 9) rfl, own_at h hk (j := 10) rfl, own_at h hk (j := 11) rfl⟩

theorem zn2 (w : World) (o o' : Obj) : ((w.alloc o).alloc o').heap[w.heap.size + 1]? = some o' := by
  have := zn (w.alloc o) o'
  simpa using this

def isOther (s : Sess) : Bool := !(s.prot == 5)

theorem filter_take {L : List Sess} {k : Nat} {s : Sess} (hk : L[k]? = some s) : (L.take (k + 1)).filter isOther = (L.take k).filter isOther ++ (if isOther s then [s] else []) := by
  rw [List.take_add_one, hk, List.filter_append]
  congr 1
  simp [List.filter_cons]

set_option maxHeartbeats 2000000 in
set_option maxRecDepth 100000 in
theorem others_any (base : Nat) (now : Int) (v : Value) (L : List Sess) (w : World) (ho : w.ownsRow base 63 12 v L.length (L.flatMap (recL now))) (hn : L.length ≤ 4096) :
    Calls Try.prog 25 #[v] w fun e w' => ∃ v', e = .returned v' ∧ w'.ownsRow w.heap.size 63 12 v' (L.filter isOther).length ((L.filter isOther).flatMap (recL now)) ∧ Below w.heap.size w w' := by
  obtain ⟨i0, hi, hz0, hz1, hz2⟩ := info_parts info63
  obtain ⟨p, c, rfl⟩ : ∃ p c, v = .slice p L.length c := by
    rcases ho.2 with ⟨rfl, h0⟩ | ⟨g, cap, cur, rfl, _⟩
    · exact ⟨_, _, by rw [h0]⟩
    · exact ⟨_, _, rfl⟩
  have HO := hide ho
  clear ho
  generalize hN : L.length = N at *
  have HN := hide hN
  clear hN
  go_enter Try.func25, Try.ntmps25
  go_wp2
  go_loopw [3, 8] (fun v t wr => ∃ k : Nat, k ≤ N ∧ t = .int .i64 k ∧ wr.ownsRow w.heap.size 63 12 v ((L.take k).filter isOther).length (((L.take k).filter isOther).flatMap (recL now)) ∧ Below w.heap.size w wr) (fun _ t _ => N - (intOf t).toNat)
  case atStart => exact ⟨0, Nat.zero_le _, rfl, World.ownsRow_nil _ _ _ _, Below.refl _ _⟩
  case round =>
    obtain ⟨k, hk, rfl, hown, hbel⟩ := hrel
    by_cases hlt : k < N
    · obtain ⟨s, hs⟩ : ∃ s, L[k]? = some s := ⟨_, List.getElem?_eq_getElem (by rw [unhide HN]; exact hlt)⟩
      have hoi := ownsRow_below (unhide HO) hbel (Nat.le_refl _)
      rcases hoi.2 with ⟨_, h0⟩ | ⟨g, cap, cur, e0, hgb, hgg, _⟩
      · omega
      · injection e0 with e1 e2 e3
        subst e1; subst e3
        obtain ⟨c0, c1, c2, c3, c4, c5, c6, c7, c8, c9, c10, c11⟩ := own_cells hoi hs
        have hglt := (Array.getElem?_eq_some_iff.1 hgg).1
        clear hoi hgg
        have HOWN := hide hown
        have HBEL := hide hbel
        have hsz := hbel.size
        have HS := hide hs
        clear hown hbel hs
        have hfl : ((L.take k).filter isOther).length ≤ k := Nat.le_trans (List.length_filter_le _ _) (by rw [List.length_take]; omega)
        by_cases hp : s.prot = 5
        · have hpp : (s.prot != 5) = false := by simp [hp]
          have HP := hide hp
          clear hp
          go_wp2
          go_roundw
          case rel =>
            have e : (L.take (k + 1)).filter isOther = (L.take k).filter isOther := by rw [filter_take (unhide HS)]; simp [isOther, unhide HP]
            refine ⟨k + 1, by omega, by go_num, ?_, (unhide HBEL).alloc hsz _⟩
            rw [e]
            exact (unhide HOWN).alloc _
          case measure => simp [intOf]; omega
        · have hpp : (s.prot != 5) = true := by simp [hp]
          have HP := hide hp
          clear hp
          go_wp2_with (first
            | (at_builtin; refine append_shape _ rfl _ _ 44 rfl w.heap.size 63 i0 _ 12 112 Try.underlying44 hi hz0 hz1 hz2 rfl (by decide) _ _ _ rfl (((unhide HOWN).alloc _).alloc _) ⟨wr.heap.size + 1, 0, none⟩ 1 1 (recL now s) rfl rfl (World.news_of_block (zn2 wr _ _)) (recL_one now s) (by unfold maxLen; omega) (by omega) (by simp; omega) (by decide) ?_; intro g2 cap2 w1 hg2 hcap2 hown' hgrow'))
          have hbel1 := Below.of_grown (((unhide HBEL).alloc hsz _).alloc (by simp; omega) _) (((unhide HOWN).alloc _).alloc _) hgrow' (by simp; omega)
          have HB1 := hide hbel1
          have HO1 := hide hown'
          clear hbel1 hown' hgrow' c0 c1 c2 c3 c4 c5 c6 c7 c8 c9 c10 c11
          go_wp2
          go_roundw
          case rel =>
            have e : (L.take (k + 1)).filter isOther = (L.take k).filter isOther ++ [s] := by rw [filter_take (unhide HS)]; simp [isOther, unhide HP]
            refine ⟨k + 1, by omega, by go_num, ?_, unhide HB1⟩
            rw [e, List.length_append, List.flatMap_append]
            simpa using unhide HO1
          case measure => simp [intOf]; omega
    · have hkN : k = N := by omega
      subst hkN
      have HOWN := hide hown
      have HBEL := hide hbel
      clear hown hbel
      go_wp2
      go_ret
      refine ⟨_, rfl, ?_, unhide HBEL⟩
      have := unhide HOWN
      rwa [List.take_of_length_le (by rw [unhide HN]; exact Nat.le_refl _)] at this
end Go.Proofs.Qxb6615037a
