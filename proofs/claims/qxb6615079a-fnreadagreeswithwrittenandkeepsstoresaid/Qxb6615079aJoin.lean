/-
  join.
-/
import Derived.Test.Qxb6615079aTick2
namespace Go.Proofs.Qxb6615079a
open Go.RowKit

/-- what a write passes on: blocks Bp .. B -/
def PassA (w : World) (Bp B : Nat) (o : Value) (m : Nat) : Prop := ∃ zs : List Int, zs.length = m ∧ w.ownsRow Bp 38 1 o m (zs.map (Value.int .u32)) ∧ ∀ j, o.ownBlock = some j → j < B

theorem PassA.grown {w w' : World} {Bp B m : Nat} {o : Value} (h : PassA w Bp B o m) {row : Option Nat} (hg : w.grownBy w' row) (hr : ∀ j, Bp ≤ j → j < B → some j ≠ row) : PassA w' Bp B o m := by
  obtain ⟨zs, h1, h2, h3⟩ := h
  exact ⟨zs, h1, own_grown h2 hg (fun j hj => hr j (own_block h2 hj).1 (h3 j hj)), h3⟩

/-- from w to wr nothing but u's own row has turned; t is u's row or a new one -/
structure Frm (w : World) (u t : Value) (wr : World) : Prop where
  keep : ∀ k, k < w.heap.size → u.ownBlock ≠ some k → wr.heap[k]? = w.heap[k]?
  at' : ∀ j, t.ownBlock = some j → u.ownBlock = some j ∨ w.heap.size ≤ j
  size : w.heap.size ≤ wr.heap.size

theorem Frm.refl (w : World) (u : Value) : Frm w u u w := ⟨fun _ _ _ => rfl, fun _ h => .inl h, Nat.le_refl _⟩

theorem Frm.step {w wr w1 : World} {u t : Value} (h : Frm w u t wr) (hg : wr.grownBy w1 t.ownBlock) : Frm w u t w1 := by
  refine ⟨fun k hk hne => ?_, h.at', Nat.le_trans h.size hg.size⟩
  refine (hg.block k (Nat.lt_of_lt_of_le hk h.size) (fun e => ?_)).trans (h.keep k hk hne)
  rcases h.at' k e.symm with h1 | h1
  · exact hne h1
  · omega

theorem Frm.move {w wr : World} {u t t' : Value} (h : Frm w u t wr) (hm : ∀ j, t'.ownBlock = some j → t.ownBlock = some j ∨ w.heap.size ≤ j) : Frm w u t' wr :=
  ⟨h.keep, fun j hj => (hm j hj).elim (h.at' j) .inr, h.size⟩

set_option maxHeartbeats 2000000 in
set_option maxRecDepth 100000 in
theorem join_any {B v : Nat} {vs ps : List Value} {sq xs : List Int} {next : Int} {hv : Value} {work : Int} (base Bp n m : Nat) (u o : Value) (w : World) (h : St w B v vs ps sq xs next hv work) (hk : ClkA w base Bp B u n) (hp : PassA w Bp B o m)
    (hn : n ≤ 1048576) (hm : m ≤ 1048576) (hb : base ≤ B) (hBp : Bp ≤ B) :
    Calls Try.prog 49 #[u, o] w fun e w' => ∃ u' n', e = .returned u' ∧ n' ≤ 1048576 ∧ ClkA w' base Bp B u' n' ∧ St w' B v vs ps sq xs next hv work ∧ Below base w w' ∧ ∀ k, k < w.heap.size → u.ownBlock ≠ some k → w'.heap[k]? = w.heap[k]? := by
  obtain ⟨i0, hi, hz0, hz1, hz2⟩ := info_parts info38
  obtain ⟨ys, hyl, hown, hap⟩ := hk
  obtain ⟨pu, cu, rfl⟩ := slice_of hown
  have hp0 := hp
  obtain ⟨zs, _, hpo, _⟩ := hp0
  obtain ⟨po, co, rfl⟩ := slice_of hpo
  clear hpo
  have hlt := h.lt
  have HST := hide h
  have HOWN := hide hown
  have HAP := hide hap
  have HYL := hide hyl
  have HP := hide hp
  clear h hown hap hyl hp
  go_enter Try.func49, Try.ntmps49
  go_wp2
  go_loopw [0] (fun t wr => ∃ (n' : Nat) (ys' : List Int), n' ≤ 1048576 ∧ ys'.length = n' ∧ wr.ownsRow base 38 1 t n' (ys'.map (Value.int .u32)) ∧ (∀ j, t.ownBlock = some j → j < Bp ∨ B + 6 < j) ∧ PassA wr Bp B (.slice po m co) m ∧ St wr B v vs ps sq xs next hv work ∧ Below base w wr ∧ Frm w (.slice pu n cu) t wr) (fun t _ => m - lenOf t)
  case atStart => exact ⟨n, ys, hn, unhide HYL, unhide HOWN, unhide HAP, unhide HP, unhide HST, Below.refl _ _, Frm.refl _ _⟩
  case round =>
    obtain ⟨n', ys', hle, hyl', hown', hap', hpa', hst', hbel', hfr'⟩ := hrel
    obtain ⟨p1, c1, rfl⟩ := slice_of hown'
    have hlt' := hst'.lt
    by_cases hle2 : n' < m
    · have HOW := hide hown'
      have HAP' := hide hap'
      have HPA' := hide hpa'
      have HST' := hide hst'
      have HBEL := hide hbel'
      have HFR := hide hfr'
      clear hown' hap' hst' hbel' hpa' hfr'
      go_wp2_with (first
        | (at_builtin; refine append_shape _ rfl _ _ 71 rfl base 38 i0 (.int .u32 0) 1 4 Try.underlying71 hi hz0 hz1 hz2 rfl (by decide) _ _ _ rfl ((unhide HOW).alloc _) ⟨wr.heap.size, 0, none⟩ 1 1 [.int .u32 0] rfl rfl (World.news_of_block (cs := #[.int .u32 0]) (zn wr _)) (ints_oneCell .u32 [0]) (by unfold maxLen; omega) (by omega) (by simp; omega) (by decide) ?_; intro g2 cap2 w1 hg2 hcap2 hown2 hgrow2 hat2))
      have hgr : (wr.alloc (.cells #[.int .u32 0] 38)).grownBy w1 (Value.slice p1 n' c1).ownBlock := hgrow2
      have hat : (Value.slice p1 n' c1).ownBlock = some g2 ∨ g2 = wr.heap.size + 1 := by
        have h := hat2
        rw [show (wr.alloc (.cells #[.int .u32 0] 38)).heap.size = wr.heap.size + 1 by simp] at h
        exact h
      clear hgrow2 hat2
      have hgr' := grown_alloc_row hgr
      have hB2 : Below base w w1 := (unhide HBEL).grown hgr' (by omega) (fun j hj => (own_block (unhide HOW) hj).1)
      have hS2 := (unhide HST').grown hgr' (fun i h1 h2 e => by rcases unhide HAP' i e.symm with h3 | h3 <;> omega)
      have hP2 := (unhide HPA').grown hgr' (fun i h1 h2 e => by rcases unhide HAP' i e.symm with h3 | h3 <;> omega)
      have hF2 : Frm w (.slice pu n cu) (.slice (some ⟨g2, 0, none⟩) (n' + 1) cap2) w1 := ((unhide HFR).step hgr').move (fun j hj => by
        simp [Value.ownBlock] at hj
        subst hj
        rcases hat with h1 | h1
        · exact .inl h1
        · exact .inr (by have := (unhide HFR).size; omega))
      have HF2 := hide hF2
      have hA2 : ∀ j, (Value.slice (some ⟨g2, 0, none⟩) (n' + 1) cap2).ownBlock = some j → j < Bp ∨ B + 6 < j := by
        intro j hj
        simp [Value.ownBlock] at hj
        subst hj
        rcases hat with h1 | h1
        · exact unhide HAP' _ h1
        · exact .inr (by omega)
      rw [ints_snoc] at hown2
      have HO2 := hide hown2
      have HB2 := hide hB2
      have HS2 := hide hS2
      have HA2 := hide hA2
      have HP2 := hide hP2
      clear hgr hgr' hat hB2 hS2 hA2 hown2 hP2 hF2
      go_roundw
      case rel => exact ⟨n' + 1, ys' ++ [0], by omega, by simp [hyl'], unhide HO2, unhide HA2, unhide HP2, unhide HS2, unhide HB2, unhide HF2⟩
      case measure => simp [lenOf]; omega
    · have HOW := hide hown'
      have HAP' := hide hap'
      have HPA' := hide hpa'
      have HST' := hide hst'
      have HBEL := hide hbel'
      have HYL' := hide hyl'
      have HFR := hide hfr'
      clear hown' hap' hst' hbel' hpa' hyl' hfr'
      go_wp2
      go_loopw [17] (fun t wr2 => ∃ (i : Nat) (zs : List Int), i ≤ m ∧ t = .int .i64 i ∧ zs.length = n' ∧ wr2.ownsRow base 38 1 (.slice p1 n' c1) n' (zs.map (Value.int .u32)) ∧ PassA wr2 Bp B (.slice po m co) m ∧ St wr2 B v vs ps sq xs next hv work ∧ Below base w wr2 ∧ Frm w (.slice pu n cu) (.slice p1 n' c1) wr2) (fun t _ => m - (intOf t).toNat)
      case atStart => exact ⟨0, ys', Nat.zero_le _, rfl, unhide HYL', unhide HOW, unhide HPA', unhide HST', unhide HBEL, unhide HFR⟩
      case round =>
        obtain ⟨i, zs, hi2, rfl, hzl, hown2, hpa2, hst2, hbel2, hfr2⟩ := hrel
        by_cases hlt2 : i < m
        · rcases id hown2.2 with ⟨_, h0⟩ | ⟨b, cap, cur, e0, hbb, hblk, _⟩
          · omega
          injection e0 with e1 _ e3
          subst e1; subst e3
          obtain ⟨qs, hql, hqo, hqb⟩ := id hpa2
          rcases id hqo.2 with ⟨_, h0⟩ | ⟨b2, cap2, cur2, e0, hbb2, hblk2, _⟩
          · omega
          injection e0 with e1 _ e3
          subst e1; subst e3
          obtain ⟨y, hy⟩ : ∃ y, zs[i]? = some y := ⟨_, List.getElem?_eq_getElem (by omega)⟩
          obtain ⟨q, hq⟩ : ∃ q, qs[i]? = some q := ⟨_, List.getElem?_eq_getElem (by omega)⟩
          obtain ⟨cy, fy, hbl⟩ := own_cell hown2 (i := i) (u := .int .u32 y) (by simp [hy])
          obtain ⟨cq, fq, hbl2⟩ := own_cell hqo (i := i) (u := .int .u32 q) (by simp [hq])
          have HOW2 := hide hown2
          have HPA2 := hide hpa2
          have HST2 := hide hst2
          have HBEL2 := hide hbel2
          have HZL := hide hzl
          have HFR2 := hide hfr2
          clear hown2 hpa2 hst2 hbel2 hblk hblk2 hqo hqb hql hy hq hzl hfr2
          have hA := unhide HAP' b rfl
          go_wp2
          go_roundw
          case rel =>
            have hst := (unhide HOW2).stored i (.int .u32 (if y < q then q else y))
            refine ⟨i + 1, zs.set i (if y < q then q else y), by omega, by go_num, by rw [List.length_set]; exact unhide HZL, ?_, ?_, ?_, ?_, ?_⟩
            · rw [List.map_set]
              exact hst.1
            · exact (unhide HPA2).grown hst.2 (fun j h1 h2 e => by have := Option.some.inj e; omega)
            · exact (unhide HST2).grown hst.2 (fun j h1 h2 e => by have := Option.some.inj e; omega)
            · exact (unhide HBEL2).setCell hbb _
            · exact (unhide HFR2).step hst.2
          case measure => simp [intOf]; omega
        · have HOW2 := hide hown2
          have HST2 := hide hst2
          have HBEL2 := hide hbel2
          have HFR2 := hide hfr2
          clear hown2 hpa2 hst2 hbel2 hfr2
          go_wp2
          go_ret
          exact ⟨_, n', rfl, hle, ⟨zs, hzl, unhide HOW2, unhide HAP'⟩, unhide HST2, unhide HBEL2, (unhide HFR2).keep⟩
end Go.Proofs.Qxb6615079a
