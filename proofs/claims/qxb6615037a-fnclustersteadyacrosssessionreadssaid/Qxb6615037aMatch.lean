/-
  FnOtherProtocolsMatchesModel: the walk.
-/
import Derived.Test.Qxb6615037aPlain2
import Derived.Test.Qxb6615037aZZ
import Derived.Test.Qxb6615037aZStore
namespace Go.Proofs.Qxb6615037a
open Go.RowKit Go.Maps

theorem own_atE {α : Type} {enc : α → List Value} {K : Nat} (k0 : 0 < K) (hK : ∀ x, (enc x).length = K) {w : World} {base e g n cap : Nat} {L : List α} (h : w.ownsRow base e K (.slice (some ⟨g, 0, none⟩) n cap) n (L.flatMap enc)) {k : Nat} {s : α} (hk : L[k]? = some s) {j : Nat} {u : Value} (hj : (enc s)[j]? = some u) :
    w.cell? ⟨g, k * K + j, none⟩ = some u := by
  rcases h.2 with ⟨e0, _⟩ | ⟨g', cap', cur, e0, hb, hg, hn, hm, hs, ht⟩
  · cases e0
  · injection e0 with e1 _ e3
    injection e1 with e1
    injection e1 with e1
    subst e1; subst e3
    have hjK : j < K := by
      have := (List.getElem?_eq_some_iff.1 hj).1
      rwa [hK] at this
    have hf := flat_get enc K k0 hK L (k * K + j)
    rw [Nat.mul_comm k K, Nat.mul_add_div k0, Nat.div_eq_of_lt hjK, Nat.add_zero, Nat.mul_add_mod, Nat.mod_eq_of_lt hjK, hk] at hf
    simp only [Option.bind_some] at hf
    rw [hj, ← ht, List.getElem?_take] at hf
    rw [Nat.mul_comm k K]
    split at hf
    · rw [Array.getElem?_toList] at hf
      unfold World.cell?
      rw [hg]
      simpa using hf
    · cases hf

theorem out_cells {w : World} {base e g n cap : Nat} {now : Int} {L : List Sess} (h : w.ownsRow base e 10 (.slice (some ⟨g, 0, none⟩) n cap) n (L.flatMap (outL now))) {k : Nat} {s : Sess} (hk : L[k]? = some s) :
    w.cell? ⟨g, k * 10, none⟩ = some (.int .i64 s.num) ∧ w.cell? ⟨g, k * 10 + 1, none⟩ = some (.string s.id) ∧ w.cell? ⟨g, k * 10 + 2, none⟩ = some (.string s.st) ∧ w.cell? ⟨g, k * 10 + 3, none⟩ = some (.bool s.rep) ∧
    w.cell? ⟨g, k * 10 + 4, none⟩ = some (.bool (decide (now < s.exp))) ∧ w.cell? ⟨g, k * 10 + 5, none⟩ = some (.int .i64 s.prot) ∧ w.cell? ⟨g, k * 10 + 6, none⟩ = some (.int .i64 s.exp) ∧ w.cell? ⟨g, k * 10 + 7, none⟩ = some (.int .i64 (s.exp - now)) ∧
    w.cell? ⟨g, k * 10 + 8, none⟩ = some (.int .i64 0) ∧ w.cell? ⟨g, k * 10 + 9, none⟩ = some (.int .i64 0) :=
  have f := fun (j : Nat) (u : Value) (hj : (outL now s)[j]? = some u) => own_atE (by omega) (outL_len now) h hk hj
  ⟨f 0 _ rfl, f 1 _ rfl, f 2 _ rfl, f 3 _ rfl, f 4 _ rfl, f 5 _ rfl, f 6 _ rfl, f 7 _ rfl, f 8 _ rfl, f 9 _ rfl⟩

theorem slice_of {w : World} {base e k n : Nat} {v : Value} {xs : List Value} (h : w.ownsRow base e k v n xs) : ∃ p c, v = .slice p n c := by
  rcases h.2 with ⟨rfl, h0⟩ | ⟨g, cap, cur, rfl, _⟩
  · exact ⟨_, _, by rw [h0]⟩
  · exact ⟨_, _, rfl⟩

set_option maxHeartbeats 4000000 in
set_option maxRecDepth 100000 in
theorem match_any (a : Option Addr) (c : Nat) (ss : List Sess) (now : Int) (w : World) (hs : SRow w a ss) (hl : ss.length ≤ 9223372036854775807) (hfit : Fits ss) :
    Calls Try.prog 4 #[.slice a ss.length c, .int .i64 now] w fun e w' => e = .returned (.bool true) ∧ Below w.heap.size w w' := by
  have HS := hide hs
  have HF := hide hfit
  have H14 := hide (bytes14 a c ss now w hs hl)
  have H9 := hide (fun W (hW : SRow W a ss) => dom_any a c ss now W hW hl)
  have H7 := hide (fun W (hW : SRow W a ss) h => sessBytes_any a c ss W hW h)
  have H10 := hide (fun W (hW : SRow W a ss) h => zstore_any a c ss 1 1 0 0 0 0 W hW h hfit (by omega))
  have H13 := hide (fun W (hW : SRow W a ss) h => want_any a c ss now W hW h)
  clear hs hfit
  generalize hn : ss.length = n at *
  have HN := hide hn
  clear hn
  go_enter Try.func4, Try.ntmps4
  go_wp2_with fail
  refine (unhide H14).mono ?_
  rintro e w1 ⟨⟨r, rfl⟩, hw1⟩
  subst hw1
  cases r with
  | false =>
    go_wp2
    go_ret
    exact ⟨rfl, Below.refl _ _⟩
  | true =>
    by_cases h4 : (4096 : Int) < n
    · go_wp2
      go_ret
      exact ⟨rfl, Below.refl _ _⟩
    · go_wp2_with fail
      refine (unhide H7 _ (unhide HS) (by omega)).mono ?_
      rintro e w2 ⟨⟨tt, rfl⟩, q2, hw2⟩
      have hb2 : Below w1.heap.size w1 w2 := by rw [hw2]; exact ⟨rfl, rfl, rfl, Nat.le_refl _, fun _ _ => rfl⟩
      clear hw2
      by_cases h5 : (1048576 : Int) < tt
      · have HB := hide hb2
        clear hb2
        go_wp2
        go_ret
        exact ⟨rfl, unhide HB⟩
      · have hs2 := (unhide HS).on (Nat.le_refl _) hb2
        have HS2 := hide hs2
        have HB := hide hb2
        clear hb2 hs2
        go_wp2_with fail
        refine (unhide H9 _ (unhide HS2)).mono ?_
        rintro e w3 ⟨⟨r, rfl, hdom⟩, hw3⟩
        subst hw3
        cases r with
        | false =>
          clear hdom
          go_wp2
          go_ret
          exact ⟨rfl, unhide HB⟩
        | true =>
          have HD := hide (hdom rfl)
          clear hdom
          go_wp2_with fail
          refine (unhide H10 _ (unhide HS2) (by omega)).mono ?_
          rintro e w4 ⟨st, mb, nn, D, rfl, hst, hnn, -, hb4⟩
          have hnow := (unhide HD).1
          have HZ := hide (zz_any st mb nn D (mapOf ss) now w4 hst hnn hnow (fun k s hk => by obtain ⟨i, hi⟩ := mapOf_mem hk; exact ((unhide HD).2 i (by rw [← unhide HN]; exact (List.getElem?_eq_some_iff.1 hi).1) s hi).2))
          have HB4 := hide ((unhide HB).trans (hb4.mono (unhide HB).size))
          have HS4 := hide ((unhide HS2).on (Nat.le_refl _) hb4)
          clear hst hb4
          go_wp2_with fail
          refine (unhide HZ).mono ?_
          rintro e w5 ⟨v, L, rfl, hown5, hoth, hlen5, hb5⟩
          have HB5 := hide ((unhide HB4).trans (hb5.mono (unhide HB4).size))
          have HS5 := hide ((unhide HS4).on (Nat.le_refl _) hb5)
          have HO5 := hide hown5
          have HOTH := hide hoth
          obtain ⟨p5, c5, rfl⟩ := slice_of hown5
          clear hown5 hoth hb5
          go_wp2_with fail
          refine (unhide H13 _ (unhide HS5) (by omega)).mono ?_
          rintro e w6 ⟨v6, X, rfl, hown6, hwt, hb6⟩
          have HB6 := hide ((unhide HB5).trans (hb6.mono (unhide HB5).size))
          have HS6 := hide ((unhide HS5).on (Nat.le_refl _) hb6)
          have HO56 := hide (ownsRow_below (unhide HO5) hb6 (Nat.le_refl _))
          have HO6 := hide hown6
          rw [← unhide HN] at hwt
          have hsame := want_same hwt (unhide HOTH)
          obtain ⟨p6, c6, rfl⟩ := slice_of hown6
          have HW := hide hsame.2
          have hLX := hsame.1
          have hXl := hwt.len
          rw [unhide HN] at hXl
          clear hown6 hwt hb6 hsame
          generalize hm : L.length = m at *
          have HM := hide hm
          subst hLX
          clear hm
          go_wp2
          clear H14 H7 H9 H10 H13 HZ
          generalize hXL : X.length = m at *
          go_loopw [48] (fun t wr => ∃ k : Nat, k ≤ m ∧ t = .int .i64 k ∧ Below w6.heap.size w6 wr) (fun t _ => m - (intOf t).toNat)
          case atStart => exact ⟨0, Nat.zero_le _, rfl, Below.refl _ _⟩
          case round =>
            obtain ⟨k, hk, rfl, hbel⟩ := hrel
            by_cases hlt : k < m
            · obtain ⟨i, hi⟩ : ∃ i, X[k]? = some i := ⟨_, List.getElem?_eq_getElem (by omega)⟩
              obtain ⟨s, hsi, hLk, hlv⟩ := unhide HW k i hi
              have ho5 := ownsRow_below (unhide HO56) hbel (Nat.le_refl _)
              have ho6 := ownsRow_below (unhide HO6) hbel (Nat.le_refl _)
              rcases id ho5.2 with ⟨_, h0⟩ | ⟨g5, cap5, cur5, e5, _, hg5, _⟩
              · omega
              rcases id ho6.2 with ⟨_, h0⟩ | ⟨g6, cap6, cur6, e6, _, hg6, _⟩
              · omega
              injection e5 with e51 _ e53
              injection e6 with e61 _ e63
              subst e51; subst e53; subst e61; subst e63
              obtain ⟨d0, d1, d2, d3, d4, d5, d6, d7, d8, d9⟩ := out_cells ho5 hLk
              have hg5l := (Array.getElem?_eq_some_iff.1 hg5).1
              have hx := ho6.cellAt k (by omega)
              have ex : (X.map encN)[k]? = some (.int .i64 (i : Int)) := by simp [encN, hi]
              rw [ex] at hx
              have hsr := (unhide HS6).on (Nat.le_refl _) hbel
              have hin : i < n := by rw [← unhide HN]; exact (List.getElem?_eq_some_iff.1 hsi).1
              obtain ⟨b, o, rfl, hb, s', hs', hsix⟩ := hsr.at (i := i) (by rw [unhide HN]; exact hin)
              rw [hsi] at hs'
              cases hs'
              obtain ⟨f0, f1, f2, f3, f4, f5⟩ := hsix
              have hex := ((unhide HD).2 i hin s hsi).2
              have HBEL := hide hbel
              clear hbel hsr ex ho5 ho6 hg5 hg6 hi hLk hsi
              have hsz := (unhide HBEL).size
              go_wp2
              go_roundw
              case rel => exact ⟨k + 1, by omega, by go_num, ((unhide HBEL).alloc hsz _).alloc (by simp; omega) _⟩
              case measure => simp [intOf]; omega
            · have HBEL := hide hbel
              clear hbel
              go_wp2
              go_ret
              exact ⟨rfl, (unhide HB6).trans ((unhide HBEL).mono (unhide HB6).size)⟩
end Go.Proofs.Qxb6615037a
