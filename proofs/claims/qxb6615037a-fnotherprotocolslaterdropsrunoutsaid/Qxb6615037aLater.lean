/-
  FnOtherProtocolsLaterDropsRunOut: the walk.
-/
import Derived.Test.Qxb6615037aMatch
namespace Go.Proofs.Qxb6615037a
open Go.RowKit Go.Maps

theorem filter_drop {L : List Sess} {k : Nat} {s : Sess} {later : Int} (hk : L[k]? = some s) (h : s.exp ≤ later) : (L.take (k + 1)).filter (fun s => decide (later < s.exp)) = (L.take k).filter fun s => decide (later < s.exp) := by
  rw [List.take_add_one, hk, List.filter_append]
  have : ¬ later < s.exp := by omega
  simp [this]

theorem filter_more {L : List Sess} {k : Nat} {s : Sess} {later : Int} (hk : L[k]? = some s) (h : later < s.exp) : (L.take (k + 1)).filter (fun s => decide (later < s.exp)) = (L.take k).filter (fun s => decide (later < s.exp)) ++ [s] := by
  rw [List.take_add_one, hk, List.filter_append]
  simp [h]

theorem filter_keep {L : List Sess} {k : Nat} {s : Sess} {later : Int} (hk : L[k]? = some s) (h : later < s.exp) : (L.filter fun s => decide (later < s.exp))[((L.take k).filter fun s => decide (later < s.exp)).length]? = some s := by
  have e2 : L.filter (fun s => decide (later < s.exp)) = (L.take k).filter (fun s => decide (later < s.exp)) ++ [s] ++ (L.drop (k + 1)).filter fun s => decide (later < s.exp) := by
    rw [← filter_more hk h, ← List.filter_append, List.take_append_drop]
  rw [e2]
  simp

set_option maxHeartbeats 4000000 in
set_option maxRecDepth 100000 in
theorem later_any (a : Option Addr) (c : Nat) (ss : List Sess) (now later : Int) (w : World) (hs : SRow w a ss) (hl : ss.length ≤ 9223372036854775807) (hfit : Fits ss) :
    Calls Try.prog 5 #[.slice a ss.length c, .int .i64 now, .int .i64 later] w fun e w' => e = .returned (.bool true) ∧ Below w.heap.size w w' := by
  have HS := hide hs
  have HF := hide hfit
  have H14 := hide (bytes15 a c ss now later w hs hl)
  have H9 := hide (fun W (hW : SRow W a ss) => dom_any a c ss now W hW hl)
  have H7 := hide (fun W (hW : SRow W a ss) h => sessBytes_any a c ss W hW h)
  have H10 := hide (fun W (hW : SRow W a ss) h => zstore_any a c ss 1 1 0 0 0 0 W hW h hfit (by omega))
  have H13 := hide (fun W (hW : SRow W a ss) h => want_any a c ss now W hW h)
  clear hs hfit
  generalize hn : ss.length = n at *
  have HN := hide hn
  clear hn
  go_enter Try.func5, Try.ntmps5
  go_wp2_with fail
  refine (unhide H14).mono ?_
  rintro e w1 ⟨⟨r, rfl⟩, hw1⟩
  subst hw1
  cases r with
  | false =>
    go_wp2
    go_ret
    exact ⟨rfl, Below.refl _ _⟩
  | true =>
    by_cases h4 : (4096 : Int) < n
    · go_wp2
      go_ret
      exact ⟨rfl, Below.refl _ _⟩
    · go_wp2_with fail
      refine (unhide H7 _ (unhide HS) (by omega)).mono ?_
      rintro e w2 ⟨⟨tt, rfl⟩, q2, hw2⟩
      have hb2 : Below w1.heap.size w1 w2 := by rw [hw2]; exact ⟨rfl, rfl, rfl, Nat.le_refl _, fun _ _ => rfl⟩
      clear hw2
      by_cases h5 : (1048576 : Int) < tt
      · have HB := hide hb2
        clear hb2
        go_wp2
        go_ret
        exact ⟨rfl, unhide HB⟩
      · have hs2 := (unhide HS).on (Nat.le_refl _) hb2
        have HS2 := hide hs2
        have HB := hide hb2
        clear hb2 hs2
        go_wp2_with fail
        refine (unhide H9 _ (unhide HS2)).mono ?_
        rintro e w3 ⟨⟨r, rfl, hdom⟩, hw3⟩
        subst hw3
        cases r with
        | false =>
          clear hdom
          go_wp2
          go_ret
          exact ⟨rfl, unhide HB⟩
        | true =>
          have HD := hide (hdom rfl)
          clear hdom
          by_cases hl1 : later < now
          · go_wp2
            go_ret
            exact ⟨rfl, unhide HB⟩
          by_cases hl2 : 4611686018427387904 ≤ later
          · go_wp2
            go_ret
            exact ⟨rfl, unhide HB⟩
          go_wp2_with fail
          refine (unhide H10 _ (unhide HS2) (by omega)).mono ?_
          rintro e w4 ⟨st, mb, nn, D, rfl, hst, hnn, -, hb4⟩
          have hnow := (unhide HD).1
          have HE : ∀ k s, mapOf ss k = some s → -4611686018427387904 < s.exp ∧ s.exp < 4611686018427387904 := fun k s hk => by obtain ⟨i, hi⟩ := mapOf_mem hk; exact ((unhide HD).2 i (by rw [← unhide HN]; exact (List.getElem?_eq_some_iff.1 hi).1) s hi).2
          have HZ := hide (zz_any st mb nn D (mapOf ss) now w4 hst hnn hnow HE)
          have HZ2 := hide (fun W (hW : Below w4.heap.size w4 W) => zz_any st mb nn D (mapOf ss) later W (hst.on hW) hnn (by omega) HE)
          have HEE := hide HE
          have HB4 := hide ((unhide HB).trans (hb4.mono (unhide HB).size))
          have HS4 := hide ((unhide HS2).on (Nat.le_refl _) hb4)
          clear hst hb4 HE
          go_wp2_with fail
          refine (unhide HZ).mono ?_
          rintro e w5 ⟨v, L, rfl, hown5, hoth, hlen5, hb5⟩
          have HB5 := hide ((unhide HB4).trans (hb5.mono (unhide HB4).size))
          have HS5 := hide ((unhide HS4).on (Nat.le_refl _) hb5)
          have HO5 := hide hown5
          have HOTH := hide hoth
          have HB45 := hide hb5
          obtain ⟨p5, c5, rfl⟩ := slice_of hown5
          clear hown5 hoth hb5
          go_wp2_with fail
          refine (unhide HZ2 _ (unhide HB45)).mono ?_
          rintro e w6 ⟨v6, L2, rfl, hown6, hoth6, hlen6, hb6⟩
          have HB6 := hide ((unhide HB5).trans (hb6.mono (unhide HB5).size))
          have HS6 := hide ((unhide HS5).on (Nat.le_refl _) hb6)
          have HO6 := hide hown6
          have HO56 := hide (ownsRow_below (unhide HO5) hb6 (Nat.le_refl _))
          have HL2 := hide (hoth6.uniq ((unhide HOTH).later (later := later) (by omega)))
          obtain ⟨p6, c6, rfl⟩ := slice_of hown6
          clear hown6 hoth6 hb6
          go_wp2_with fail
          refine (unhide H13 _ (unhide HS6) (by omega)).mono ?_
          rintro e w7 ⟨v7, X, rfl, hown7, hwt, hb7⟩
          have HB7 := hide ((unhide HB6).trans (hb7.mono (unhide HB6).size))
          have HO57 := hide (ownsRow_below (unhide HO56) hb7 (Nat.le_refl _))
          have HO67 := hide (ownsRow_below (unhide HO6) hb7 (Nat.le_refl _))
          rw [← unhide HN] at hwt
          have hsame := want_same hwt (unhide HOTH)
          obtain ⟨p7, c7, rfl⟩ := slice_of hown7
          have hLX := hsame.1
          clear hown7 hwt hb7 hsame
          rw [← hLX]
          clear hLX
          clear H14 H7 H9 H10 H13 HZ HZ2
          generalize hm : L.length = m at *
          have HM := hide hm
          clear hm
          generalize hm2 : L2.length = m2 at *
          have HM2 := hide hm2
          clear hm2
          go_wp2
          go_loopw [12, 73] (fun u t wr => ∃ k j : Nat, k ≤ m ∧ t = .int .i64 k ∧ u = .int .i64 j ∧ j = ((L.take k).filter fun s => decide (later < s.exp)).length ∧ Below w7.heap.size w7 wr) (fun _ t _ => m - (intOf t).toNat)
          case atStart => exact ⟨0, 0, Nat.zero_le _, rfl, rfl, rfl, Below.refl _ _⟩
          case round =>
            obtain ⟨k, j, hk, rfl, rfl, hj, hbel⟩ := hrel
            have HJ := hide hj
            clear hj
            have hjm : j ≤ k := by
              rw [unhide HJ]
              exact Nat.le_trans (List.length_filter_le _ _) (by rw [List.length_take]; omega)
            have hsz := hbel.size
            by_cases hlt : k < m
            · obtain ⟨s, hs⟩ : ∃ s, L[k]? = some s := ⟨_, List.getElem?_eq_getElem (by rw [unhide HM]; exact hlt)⟩
              have ho5 := ownsRow_below (unhide HO57) hbel (Nat.le_refl _)
              rcases id ho5.2 with ⟨_, h0⟩ | ⟨g5, cap5, cur5, e5, _, hg5, _⟩
              · omega
              injection e5 with e51 _ e53
              subst e51; subst e53
              obtain ⟨d0, d1, d2, d3, d4, d5, d6, d7, d8, d9⟩ := out_cells ho5 hs
              have hg5l := (Array.getElem?_eq_some_iff.1 hg5).1
              have hex := unhide HEE _ _ (((unhide HOTH).mem s).1 (List.mem_of_getElem? hs)).1
              have hlv := (((unhide HOTH).mem s).1 (List.mem_of_getElem? hs)).2.1
              have HSK := hide hs
              clear hs ho5 hg5
              by_cases hdrop : s.exp ≤ later
              · have HBEL := hide hbel
                clear hbel
                go_wp2
                go_roundw
                case rel => exact ⟨k + 1, j, by omega, by go_num, rfl, (unhide HJ).trans (congrArg List.length (filter_drop (unhide HSK) hdrop)).symm, (unhide HBEL).alloc hsz _⟩
                case measure => simp [intOf]; omega
              · have hL2 : L2[j]? = some s := by rw [unhide HL2, unhide HJ]; exact filter_keep (unhide HSK) (by omega)
                have hjlt : j < m2 := by rw [← unhide HM2]; exact (List.getElem?_eq_some_iff.1 hL2).1
                have ho6 := ownsRow_below (unhide HO67) hbel (Nat.le_refl _)
                rcases id ho6.2 with ⟨_, h0⟩ | ⟨g6, cap6, cur6, e6, _, hg6, _⟩
                · omega
                injection e6 with e61 _ e63
                subst e61; subst e63
                obtain ⟨f0, f1, f2, f3, f4, f5, f6, f7, f8, f9⟩ := out_cells ho6 hL2
                have hg6l := (Array.getElem?_eq_some_iff.1 hg6).1
                have HBEL := hide hbel
                clear hbel ho6 hg6 hL2
                have harith : s.exp - now - (later - now) = s.exp - later := by omega
                go_wp2
                go_roundw
                case rel => exact ⟨k + 1, j + 1, by omega, by go_num, by go_num, by rw [filter_more (unhide HSK) (by omega), List.length_append, ← unhide HJ]; rfl, ((unhide HBEL).alloc hsz _).alloc (by simp; omega) _⟩
                case measure => simp [intOf]; omega
            · have hkm : k = m := by omega
              have hjj : j = m2 := by
                rw [← unhide HM2, unhide HL2, unhide HJ, List.take_of_length_le (by rw [unhide HM]; omega)]
              subst hjj
              have HBEL := hide hbel
              clear hbel
              go_wp2
              go_ret
              exact ⟨rfl, (unhide HB7).trans ((unhide HBEL).mono (unhide HB7).size)⟩
end Go.Proofs.Qxb6615037a
