/-
  live: the walk.
-/
import Derived.Test.Qxb6615037aLive3
namespace Go.Proofs.Qxb6615037a
open Go.RowKit Go.Maps

theorem zn (w : World) (o : Obj) : (w.alloc o).heap[w.heap.size]? = some o := by
  show (w.heap.push _)[w.heap.size]? = _
  simp

set_option maxHeartbeats 2000000 in
set_option maxRecDepth 100000 in
theorem live_any (st mb n : Nat) (D : DataW Unit) (M : Int → Option Sess) (now : Int) (w : World) (hS : Store w st mb n D M) (hn : n ≤ 4096) (hnow : -4611686018427387904 < now ∧ now < 4611686018427387904)
    (hexp : ∀ k s, M k = some s → -4611686018427387904 < s.exp ∧ s.exp < 4611686018427387904) :
    Calls Try.prog 26 #[.pointer (some ⟨st, 0, none⟩), .agg #[.int .u64 (now % 1000000000), .int .i64 (now / 1000000000), .pointer none]] w fun e w' =>
      ∃ v L, e = .returned v ∧ w'.ownsRow w.heap.size 63 12 v L.length (L.flatMap (recL now)) ∧ IsLive M now L ∧ L.length ≤ 4096 ∧ Below w.heap.size w w' := by
  obtain ⟨i0, hi, hz0, hz1, hz2⟩ := info_parts info63
  have HSD := hide (sizeD hS.own)
  have hcell := hS.cell
  have hlt := hS.lt
  have HS := hide hS
  have HLIV : ∀ k s W, Below w.heap.size w W → M k = some s → (Lit.int .i64 k).wf = true → Calls Try.prog 35 #[.pointer (some ⟨st, 0, none⟩), .int .i64 k, .agg #[.int .u64 (now % 1000000000), .int .i64 (now / 1000000000), .pointer none]] W fun e w' => e = .returned (.bool (decide (now < s.exp))) ∧ Below W.heap.size W w' :=
    fun k s W hW hk hw => liveAt_any st mb n D M k s now W (hS.on hW) hk hw
  have HREC : ∀ k s W, Below w.heap.size w W → M k = some s → (Lit.int .i64 k).wf = true → Calls Try.prog 36 #[.pointer (some ⟨st, 0, none⟩), .int .i64 k, .agg #[.int .u64 (now % 1000000000), .int .i64 (now / 1000000000), .pointer none]] W fun e w' => e = .returned (.agg (recCells now s)) ∧ Below W.heap.size W w' :=
    fun k s W hW hk hw => record_any st mb n D M k s now W (hS.on hW) hk hw hnow (hexp k s hk)
  have HLIV := hide HLIV
  have HREC := hide HREC
  have hown := hS.own
  have hmlt := hown.lt
  clear hS
  generalize hA : now % 1000000000 = a at *
  generalize hB : now / 1000000000 = b at *
  go_enter Try.func26, Try.ntmps26
  go_wp2_with (first
    | (at_range; refine wpList_range_own _ rfl _ 66 rfl 2 82 law2 Try.underlying66 _ mb n D rfl ((hown.alloc _).alloc _) ?_; intro w0 hrg0 hg0 hs0)
    | go_in)
  go_frame
  have e1 : ((w.alloc (.cells #[.int .u64 a, .int .i64 b, .pointer none] 51)).alloc (.cells #[.slice none 0 0] 44)).heap.size = w.heap.size + 2 := by simp
  rw [e1] at hrg0 hs0 ⊢
  have hst : LiveRel w mb n D now a b w0 (Maps.has D) (Maps.size D) [] (.slice none 0 0) := by
    have k : ∀ i o, i < w.heap.size + 2 → w0.cell? ⟨i, o, none⟩ = _ := fun i o hi => hg0.cell_far ⟨i, o, none⟩ (by show i < _; omega) (by simp)
    refine ⟨hrg0, hmlt, (k _ _ (by omega)).trans (by go_simp), (hg0.frozen_far ⟨w.heap.size + 1, 0, none⟩ (by show w.heap.size + 1 < _; omega) (by simp)).trans (by go_simp), (k _ _ (by omega)).trans (by go_simp), (k _ _ (by omega)).trans (by go_simp), (k _ _ (by omega)).trans (by go_simp), World.ownsRow_nil _ _ _ _, ?_, by omega⟩
    exact (((Below.refl _ w).alloc (Nat.le_refl _) _).alloc (by simp) _).grown hg0 (by omega) (fun j hj => by cases hj)
  have HST := hide hst
  clear hrg0 hg0 hs0 e1 hst hown hcell hlt
  go_loopw [] (fun wr => ∃ left cnt L v, LiveRel w mb n D now a b wr left cnt L v ∧ L.length + cnt ≤ Maps.size D ∧ LiveTo M now left L) (fun wr => wr.rangeLeft mb (w.heap.size + 2))
  case atStart => exact ⟨_, _, _, _, unhide HST, by simp, LiveTo.zero (unhide HS) now⟩
  case round =>
    obtain ⟨left, cnt, L, v, hR, hlen, hto⟩ := hrel
    have hrg := hR.rg
    go_wp2_with (first
      | (at_next; refine wpList_next_ranges _ rfl _ rfl 2 law2 ptrElem (Value.int .i64) id (fun key kl hkey => by obtain ⟨x, rfl, _⟩ := Maps.keyOf_int_inv Try.underlying2 hkey; exact ⟨x, rfl⟩) (fun v _ _ => ⟨v, rfl⟩) mb (w.heap.size + 2) n _ _ _ rfl hrg ?_ ?_)
      | go_in)
    · intro hc0 hl0
      have hbox := hR.box
      have HSO := hide (sort_any now L (w.heap.size + 3) (w.heap.size + 1) L.length v wr hR.own (by have := unhide HSD; omega) hR.box (by omega) hR.size)
      have HR := hide hR
      clear hrg hR
      go_wp2_with fail
      refine (unhide HSO).mono ?_
      rintro e w2 ⟨rfl, L', hso, hown2, hb2⟩
      have hbox2 : w2.cell? ⟨w.heap.size + 1, 0, none⟩ = some v := (hb2.cell (p := ⟨w.heap.size + 1, 0, none⟩) (by show w.heap.size + 1 < _; omega)).trans hbox
      have HL := hide hso.1.length_eq
      have HO := hide hown2
      have HB2 := hide hb2
      have HD := hide (hto.done hl0 hso)
      clear hso hown2 hb2
      go_wp2
      go_ret
      refine ⟨v, L', rfl, ?_, unhide HD, ?_, (unhide HR).bel.trans ((unhide HB2).mono (by omega))⟩
      · rw [unhide HL]
        exact ownsRow_mono (unhide HO) (by omega)
      · have := unhide HSD
        have := unhide HL
        omega
    · intro x c kl y ps w1 cnt1 hkey hlk hv hat hrg1 hlt1 hg1 hs1 hen
      obtain ⟨x', ex, rfl, hwx⟩ := Maps.keyOf_int_inv Try.underlying2 hkey
      cases ex
      obtain ⟨s, hM⟩ : ∃ s, M x = some s := by
        cases e : M x with
        | some s => exact ⟨s, rfl⟩
        | none =>
          have := (unhide HS).no x e
          rw [has_true_of_atKey hat] at this
          cases this
      have hsn := ((unhide HS).yes x s hM).1
      subst hsn
      have hb1 : Below w.heap.size w w1 := hR.bel.grown hg1 hR.bel.size (fun j hj => by cases hj; omega)
      have hR1 := hR.step hg1 hrg1
      have HR := hide hR
      have HR1 := hide hR1
      have HH := hide hlt1
      have c0 := hR1.c0
      have c1 := hR1.c1
      have c2 := hR1.c2
      have HTO := hide hto
      clear hR hR1 hrg hat hv hrg1 hg1 hkey hto
      go_wp2_with fail
      refine (unhide HLIV s.num s _ hb1 hM hwx).mono ?_
      rintro e w2 ⟨rfl, hb2⟩
      have hR2 := (unhide HR1).on hb2
      clear c0 c1 c2 hen
      by_cases hlv : now < s.exp
      · rw [decide_eq_true hlv]
        have HLV := hide hlv
        clear hlv
        have d0 := hR2.c0
        have d1 := hR2.c1
        have d2 := hR2.c2
        have dv := hR2.box
        have df := hR2.free
        have HR2 := hide hR2
        clear hR2
        go_wp2
        go_region_law (first
          | (go_simp; go_at_call 36; refine (unhide HREC s.num s _ ((unhide HR2).bel.drew) hM hwx).mono ?_; rintro e w3 ⟨rfl, hb3⟩; have hR3 := (unhide HR2).on ((Below.refl _ w2).drew.trans hb3); have e0 := hR3.c0; have e1 := hR3.c1; have e2 := hR3.c2; have ev := hR3.box; have ef := hR3.free; have HR3 := hide hR3; have hown3 := hR3.own; clear hR3; have hs3 := (unhide HR3).size; have hs3' : w.heap.size + 1 < w3.heap.size := (by omega); unfold recCells)
          | (refine step_append_lies _ rfl _ _ 44 rfl (w.heap.size + 3) 63 i0 _ 12 112 Try.underlying44 hi hz0 hz1 hz2 rfl (by decide) v L.length _ rfl (hown3.alloc _) ⟨w3.heap.size, 0, none⟩ 1 1 (recL now s) rfl rfl (World.news_of_block (zn w3 _)) (recL_one now s) (by decide) (by unfold maxLen; have := unhide HSD; omega) (by have := unhide HSD; omega) (by simp; omega) _ rfl ?_; intro g cap w4 hown4 hgrow4 hat4 hlt4; have hap := (unhide HR3).appended hgrow4; have hap1 := hap.1; have hap2 := hap.2; have HP := hide ((unhide HR3).push hgrow4 hown4); clear hap hat4 hgrow4 hown4))
        all_goals
          go_wp2
          go_roundw
          case rel => exact ⟨_, _, _, _, unhide HP, by simp; omega, (unhide HTO).add hM rfl hlk (unhide HLV)⟩
          case measure => rw [(unhide HP).rg.left_eq, (unhide HR).rg.left_eq]; exact unhide HH
      · rw [decide_eq_false (show ¬ now < s.exp by omega)]
        have HR2 := hide hR2
        clear hR2
        go_wp2
        go_roundw
        case rel => exact ⟨_, _, _, _, unhide HR2, by omega, (unhide HTO).skip hM (by omega)⟩
        case measure => rw [(unhide HR2).rg.left_eq, (unhide HR).rg.left_eq]; exact unhide HH
end Go.Proofs.Qxb6615037a
