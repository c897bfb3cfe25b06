/-
  zzWantOthers: the walk.
-/
import Derived.Test.Qxb6615037aPlain
import Derived.Test.Qxb6615037aOwn
namespace Go.Proofs.Qxb6615037a
open Go.RowKit

theorem info3 : (Try.prog.info? 3).map (fun i => (i.zero, i.size, i.bytes)) = some (some (.int .i64 0), 1, 8) := by kernel_rfl

theorem one_new (w : World) (u : Value) (t : Nat) : ∀ (j : Nat) (v : Value), [u][j]? = some v → (w.alloc (.cells #[u] t)).cell? ((⟨w.heap.size, 0, none⟩ : Addr).add j) = some v := by
  intro j v hj
  match j, hj with
  | 0, hj => simp at hj; subst hj; simp [Addr.add]
  | j + 1, hj => simp at hj

theorem SRow.on {w w' : World} {a : Option Addr} {ss : List Sess} {B : Nat} (h : SRow w a ss) (hB : w.heap.size ≤ B) (hb : Below B w w') : SRow w' a ss := by
  rcases h with rfl | ⟨b, o, rfl, hbl, hc⟩
  · exact .inl rfl
  · refine .inr ⟨b, o, rfl, Nat.lt_of_lt_of_le hbl hb.size, fun i s hs => ?_⟩
    have k : ∀ q, w'.cell? ⟨b, q, none⟩ = w.cell? ⟨b, q, none⟩ := fun q => hb.cell (p := ⟨b, q, none⟩) (Nat.lt_of_lt_of_le hbl hB)
    obtain ⟨c0, c1, c2, c3, c4, c5⟩ := hc i s hs
    exact ⟨(k _).trans c0, (k _).trans c1, (k _).trans c2, (k _).trans c3, (k _).trans c4, (k _).trans c5⟩

set_option maxHeartbeats 2000000 in
set_option maxRecDepth 100000 in
theorem want_any (a : Option Addr) (c : Nat) (ss : List Sess) (now : Int) (w : World) (hs : SRow w a ss) (hl : ss.length ≤ 4096) :
    Calls Try.prog 13 #[.slice a ss.length c, .int .i64 now] w fun e w' => ∃ v X, e = .returned v ∧ w'.ownsRow w.heap.size 3 1 v X.length (X.map encN) ∧ WantTo ss now ss.length X ∧ Below w.heap.size w w' := by
  obtain ⟨i0, hi, hz0, hz1, hz2⟩ := info_parts info3
  have HO := hide (fun i si W h1 h2 h3 => over_any a c ss i si W h1 h2 h3)
  generalize hn : ss.length = n at hl HO ⊢
  have HN := hide hn
  clear hn
  have HS := hide hs
  clear hs
  go_enter Try.func13, Try.ntmps13
  go_wp2
  go_loopw [5, 11] (fun v t wr => ∃ (k : Nat) (X : List Nat), k ≤ n ∧ t = .int .i64 k ∧ wr.ownsRow w.heap.size 3 1 v X.length (X.map encN) ∧ WantTo ss now k X ∧ Below w.heap.size w wr) (fun _ t _ => n - (intOf t).toNat)
  case atStart => exact ⟨0, [], Nat.zero_le _, rfl, World.ownsRow_nil _ _ _ _, WantTo.zero _ _, Below.refl _ _⟩
  case round =>
    obtain ⟨k, X, hk, rfl, hown, hwt, hbel⟩ := hrel
    by_cases hlt : k < n
    · have hsr := (unhide HS).on (Nat.le_refl _) hbel
      obtain ⟨b, o, rfl, hb, s, hsk, hsix⟩ := hsr.at (i := k) (by rw [unhide HN]; exact hlt)
      obtain ⟨c0, c1, c2, c3, c4, c5⟩ := hsix
      have HSR := hide hsr
      have HSK := hide hsk
      clear hsr hsk
      by_cases hex : s.exp ≤ now
      · go_wp2
        go_roundw
        case rel => exact ⟨k + 1, X, by omega, by go_num, hown, hwt.skip (by rintro ⟨t, ht, h1, _⟩; rw [unhide HSK] at ht; cases ht; omega), hbel⟩
        case measure => simp [intOf]; omega
      by_cases hpr : s.prot = 5
      · have hpr' : (s.prot == 5) = true := by simp [hpr]
        have HPR := hide hpr
        clear hpr
        go_wp2
        go_roundw
        case rel => exact ⟨k + 1, X, by omega, by go_num, hown, hwt.skip (by rintro ⟨t, ht, h1, h2, _⟩; rw [unhide HSK] at ht; cases ht; exact h2 (unhide HPR)), hbel⟩
        case measure => simp [intOf]; omega
      have hpr' : (s.prot == 5) = false := by simp [hpr]
      go_wp2_with fail
      refine (unhide HO k s _ (unhide HSR) (by omega) (unhide HSK)).mono ?_
      rintro e w1 ⟨rfl, q, rfl⟩
      obtain ⟨ov, hov⟩ : ∃ ov, overB ss k s.num = ov := ⟨_, rfl⟩
      rw [hov]
      have HOV := hide hov
      clear hov
      cases ov with
      | true =>
        go_wp2
        go_roundw
        case rel => exact ⟨k + 1, X, by omega, by go_num, hown, hwt.skip (by rintro ⟨t, ht, h1, h2, h3⟩; rw [unhide HSK] at ht; cases ht; rw [unhide HOV] at h3; cases h3), ⟨hbel.os, hbel.tape, hbel.output, hbel.size, hbel.block⟩⟩
        case measure => simp [intOf]; omega
      | false =>
        have hwk : Wanted ss now k := ⟨s, unhide HSK, hex, hpr, unhide HOV⟩
        have hXl := hwt.len
        have hown0 : (wr.drewN q).ownsRow w.heap.size 3 1 u5 X.length (X.map encN) := hown
        have hsz := hbel.size
        go_wp2_with (first
          | (at_builtin; refine append_shape _ rfl _ _ 33 rfl w.heap.size 3 i0 (.int .i64 0) 1 8 Try.underlying33 hi hz0 hz1 hz2 rfl (by decide) _ _ _ rfl (hown0.alloc _) ⟨wr.heap.size, 0, none⟩ 1 1 [.int .i64 (k : Int)] rfl rfl (one_new _ _ _) (ints_oneCell .i64 [(k : Int)]) (by unfold maxLen; omega) (by omega) (by simp; omega) (by decide) ?_; intro g cap w1 hg hcap hown' hgrow))
        have hgrow' : ((wr.drewN q).alloc (.cells #[.int .i64 (k : Int)] 3)).grownBy w1 u5.ownBlock := hgrow
        have hbq : Below w.heap.size w (wr.drewN q) := ⟨hbel.os, hbel.tape, hbel.output, hbel.size, hbel.block⟩
        have hbel1 : Below w.heap.size w w1 := Below.of_grown (hbq.alloc hsz _) (hown0.alloc _) hgrow' (by simp; omega)
        have hown1 : w1.ownsRow w.heap.size 3 1 (.slice (some ⟨g, 0, none⟩) (X.length + 1) cap) (X.length + 1) ((X ++ [k]).map encN) := by
          simpa [encN] using hown'
        clear hgrow hgrow' hown' hown0 hown hbel hbq c0 c1 c2 c3 c4 c5 hb
        have HW := hide hwt
        have HWK := hide hwk
        have HB1 := hide hbel1
        have HOWN1 := hide hown1
        clear hwt hwk hbel1 hown1 HSR
        go_loopw [7] (fun t wr2 => ∃ (m : Nat) (A B : List Nat), X = A ++ B ∧ A.length = m ∧ t = .int .i64 (m : Nat) ∧ (∀ j ∈ B, numAt ss k < numAt ss j) ∧ wr2.ownsRow w.heap.size 3 1 (.slice (some ⟨g, 0, none⟩) (X.length + 1) cap) (X.length + 1) ((A ++ [k] ++ B).map encN) ∧ Below w.heap.size w wr2) (fun t _ => (intOf t).toNat)
        case atStart => exact ⟨X.length, X, [], by simp, rfl, by go_num, by simp, by simpa using unhide HOWN1, unhide HB1⟩
        case round =>
          obtain ⟨m, A, B, hXAB, hAm, rfl, hBn, hown2, hbel2⟩ := hrel
          have HX := hide hXAB
          have HBN := hide hBn
          clear hXAB hBn
          rcases List.eq_nil_or_concat A with hA | ⟨A0, p, hA⟩
          · subst hA
            obtain rfl : m = 0 := by simpa using hAm.symm
            have HO2 := hide hown2
            have HB2 := hide hbel2
            clear hown2 hbel2 hAm
            go_wp2
            go_quiet (fail)
            go_wp2
            go_roundw
            case rel => exact ⟨k + 1, [] ++ [k] ++ B, by omega, by go_num, by have e : ([] ++ [k] ++ B).length = X.length + 1 := by { rw [unhide HX]; simp }; rw [e]; exact unhide HO2, (unhide HW).insert (unhide HWK) (unhide HX) (unhide HBN) (by simp), ⟨(unhide HB2).os, (unhide HB2).tape, (unhide HB2).output, (unhide HB2).size, (unhide HB2).block⟩⟩
            case measure => simp [intOf]; omega
          · rw [List.concat_eq_append] at hA
            subst hA
            have hm1 : m = A0.length + 1 := by simpa using hAm.symm
            subst hm1
            have hpX : p ∈ X := by rw [unhide HX]; simp
            obtain ⟨hpk, sp, hsp, hwp⟩ := (unhide HW).lt hpX
            have hXlen : X.length = A0.length + 1 + B.length := by rw [unhide HX]; simp; omega
            have hsr := (unhide HS).on (Nat.le_refl _) hbel2
            obtain ⟨b1, o1, hbo, hb1, s1, hs1, hsix1⟩ := hsr.at (i := p) (by rw [unhide HN]; omega)
            cases hbo
            rw [hsp] at hs1
            cases hs1
            obtain ⟨p0, -, -, -, -, -⟩ := hsix1
            obtain ⟨b1, o1, hbo, hb1, s2, hs2, hsix2⟩ := hsr.at (i := k) (by rw [unhide HN]; omega)
            cases hbo
            rw [unhide HSK] at hs2
            cases hs2
            obtain ⟨k0, -, -, -, -, -⟩ := hsix2
            have cp := hown2.cellAt A0.length (by omega)
            have ck := hown2.cellAt (A0.length + 1) (by omega)
            have fp := hown2.frozenAt A0.length
            have fk := hown2.frozenAt (A0.length + 1)
            have ep : ((A0 ++ [p] ++ [k] ++ B).map encN)[A0.length]? = some (.int .i64 (p : Int)) := by simp [encN]
            have ek : ((A0 ++ [p] ++ [k] ++ B).map encN)[A0.length + 1]? = some (.int .i64 (k : Int)) := by simp [encN]
            rw [ep] at cp
            rw [ek] at ck
            clear ep ek hsr
            have hnp : numAt ss p = sp.num := numAt_of hsp
            have hnk : numAt ss k = s.num := numAt_of (unhide HSK)
            have hi1 : (p : Int) < (n : Int) := by omega
            have hi2 : (k : Int) < (n : Int) := by omega
            have HNP := hide hnp
            have HNK := hide hnk
            have HWP := hide hwp
            have HO2 := hide hown2
            have HB2 := hide hbel2
            have HXL := hide hXlen
            have hxl1 : ((A0.length : Nat) : Int) + 1 < (X.length : Int) + 1 := by omega
            have hxl2 : ((A0.length : Nat) : Int) < (X.length : Int) + 1 := by omega
            clear hnp hnk hwp hown2 hbel2 hsp hAm hpX hXlen
            generalize hA0 : A0.length = m0 at *
            have HM0 := hide hA0
            clear hA0
            by_cases hgt : s.num < sp.num
            · go_wp2
              go_quiet (fail)
              go_wp2
              go_roundw
              case rel =>
                have h1 : (wr.drewN nq).ownsRow w.heap.size 3 1 (.slice (some ⟨g, 0, none⟩) (X.length + 1) cap) (X.length + 1) ((A0 ++ [p] ++ [k] ++ B).map encN) := unhide HO2
                have h2 := (h1.stored m0 (encN k)).1.stored (m0 + 1) (encN p)
                have h3 := swap_cells A0 p k B
                rw [unhide HM0] at h3
                rw [h3] at h2
                have h4 : Below w.heap.size w (wr.drewN nq) := ⟨(unhide HB2).os, (unhide HB2).tape, (unhide HB2).output, (unhide HB2).size, (unhide HB2).block⟩
                refine ⟨m0, A0, p :: B, by rw [unhide HX]; simp, unhide HM0, rfl, ?_, ?_, (h4.setCell hg _).setCell hg _⟩
                · intro j hj
                  rcases List.mem_cons.1 hj with h | h
                  · rw [h, unhide HNP, unhide HNK]; exact hgt
                  · exact unhide HBN j h
                · have h5 := h2.1
                  rw [List.append_assoc (A0 ++ [k]), List.singleton_append] at h5
                  exact h5
              case measure => simp [intOf]
            · go_wp2
              go_quiet (fail)
              go_wp2
              go_roundw
              case rel =>
                refine ⟨k + 1, A0 ++ [p] ++ [k] ++ B, by omega, by go_num, ?_, (unhide HW).insert (unhide HWK) (unhide HX) (unhide HBN) ?_, ⟨(unhide HB2).os, (unhide HB2).tape, (unhide HB2).output, (unhide HB2).size, (unhide HB2).block⟩⟩
                · have e : (A0 ++ [p] ++ [k] ++ B).length = X.length + 1 := by rw [unhide HX]; simp; omega
                  rw [e]
                  exact unhide HO2
                · intro p' hp'
                  simp at hp'
                  subst hp'
                  have h1 := wanted_ne (unhide HWP) (unhide HWK) hpk
                  rw [unhide HNP, unhide HNK] at h1 ⊢
                  omega
              case measure => simp [intOf]; omega
    · obtain rfl : k = n := by omega
      go_wp2
      go_ret
      exact ⟨_, X, rfl, hown, hwt, hbel⟩
end Go.Proofs.Qxb6615037a
