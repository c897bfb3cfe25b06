/-
  FnClusterSteadyAcrossSessionReads: the walk.
-/
import Derived.Test.Qxb6615037aMatch
import Derived.Test.Qxb6615037aClus2
namespace Go.Proofs.Qxb6615037a
open Go.RowKit Go.Maps

set_option maxHeartbeats 4000000 in
set_option maxRecDepth 100000 in
theorem steady_any (x0 x1 x2 x3 x4 x5 : Int) (a : Option Addr) (c : Nat) (ss : List Sess) (now : Int) (w : World) (hs : SRow w a ss) (hl : ss.length ≤ 9223372036854775807) (hfit : Fits ss) :
    Calls Try.prog 3 #[.int .i64 x0, .int .i64 x1, .int .i64 x2, .int .i64 x3, .int .i64 x4, .int .i64 x5, .slice a ss.length c, .int .i64 now] w fun e w' => e = .returned (.bool true) ∧ Below w.heap.size w w' := by
  have HS := hide hs
  have HF := hide hfit
  have H14 := hide (bytes6 a c ss x0 x1 x2 x3 x4 x5 now w hs hl)
  have H9 := hide (fun W (hW : SRow W a ss) => dom_any a c ss now W hW hl)
  have H7 := hide (fun W (hW : SRow W a ss) h => sessBytes_any a c ss W hW h)
  have H10 := hide (fun W (hW : SRow W a ss) h => zstore_any a c ss x0 x1 x2 x3 x4 x5 W hW h hfit)
  have H13 := hide (fun W (hW : SRow W a ss) h => want_any a c ss now W hW h)
  clear hs hfit
  generalize hn : ss.length = n at *
  have HN := hide hn
  clear hn
  go_enter Try.func3, Try.ntmps3
  go_wp2_with fail
  refine (unhide H14).mono ?_
  rintro e w1 ⟨⟨r, rfl⟩, hw1⟩
  subst hw1
  cases r with
  | false =>
    go_wp2
    go_ret
    exact ⟨rfl, Below.refl _ _⟩
  | true =>
    by_cases h4 : (4096 : Int) < n
    · go_wp2
      go_ret
      exact ⟨rfl, Below.refl _ _⟩
    · go_wp2_with fail
      refine (unhide H7 _ (unhide HS) (by omega)).mono ?_
      rintro e w2 ⟨⟨tt, rfl⟩, q2, hw2⟩
      have hb2 : Below w1.heap.size w1 w2 := by rw [hw2]; exact ⟨rfl, rfl, rfl, Nat.le_refl _, fun _ _ => rfl⟩
      clear hw2
      by_cases h5 : (1048576 : Int) < tt
      · have HB := hide hb2
        clear hb2
        go_wp2
        go_ret
        exact ⟨rfl, unhide HB⟩
      · have hs2 := (unhide HS).on (Nat.le_refl _) hb2
        have HS2 := hide hs2
        have HB := hide hb2
        clear hb2 hs2
        go_wp2_with fail
        refine (cdom_any x0 x1 x2 x3 x4 x5 _).mono ?_
        rintro e w3 ⟨⟨r, rfl, hcd⟩, hw3⟩
        subst hw3
        cases r with
        | false =>
          clear hcd
          go_wp2
          go_ret
          exact ⟨rfl, unhide HB⟩
        | true =>
          have HCD := hide (hcd rfl)
          clear hcd
          go_wp2_with fail
          refine (unhide H9 _ (unhide HS2)).mono ?_
          rintro e w3 ⟨⟨r, rfl, hdom⟩, hw3⟩
          subst hw3
          cases r with
          | false =>
            clear hdom
            go_wp2
            go_ret
            exact ⟨rfl, unhide HB⟩
          | true =>
            have HD := hide (hdom rfl)
            clear hdom
            go_wp2_with fail
            refine (unhide H10 _ (unhide HS2) (by omega) (by have := unhide HCD; omega)).mono ?_
            rintro e w4 ⟨st, mb, nn, D, rfl, hst, hnn, hclus, hb4⟩
            have hnow := (unhide HD).1
            have hstl := hst.lt
            have HZ := hide (fun W (hW : Below w4.heap.size w4 W) => zz_any st mb nn D (mapOf ss) now W (hst.on hW) hnn hnow (fun k s hk => by obtain ⟨i, hi⟩ := mapOf_mem hk; exact ((unhide HD).2 i (by rw [← unhide HN]; exact (List.getElem?_eq_some_iff.1 hi).1) s hi).2))
            have HR := hide (fun W (hW : Below w4.heap.size w4 W) => recIs_any st now x0 x1 x2 x3 x4 x5 W (hclus.on hW hstl) (Nat.lt_of_lt_of_le hstl hW.size) hnow)
            have HB4 := hide ((unhide HB).trans (hb4.mono (unhide HB).size))
            have HS4 := hide ((unhide HS2).on (Nat.le_refl _) hb4)
            clear hst hb4 hclus
            go_wp2_with fail
            refine (unhide HR _ (Below.refl _ _)).mono ?_
            rintro e w5 ⟨rfl, hb5⟩
            have HB45 := hide hb5
            clear hb5
            go_wp2_with fail
            refine (unhide HZ _ (unhide HB45)).mono ?_
            rintro e w6 ⟨v, L, rfl, hown6, hoth, hlen6, hb6⟩
            have HB46 := hide ((unhide HB45).trans (hb6.mono (unhide HB45).size))
            have HS6 := hide ((unhide HS4).on (Nat.le_refl _) (unhide HB46))
            have HOTH := hide hoth
            obtain ⟨p6, c6, rfl⟩ := slice_of hown6
            clear hown6 hoth hb6
            go_wp2_with fail
            refine (unhide H13 _ (unhide HS6) (by omega)).mono ?_
            rintro e w7 ⟨v7, X, rfl, hown7, hwt, hb7⟩
            have HB47 := hide ((unhide HB46).trans (hb7.mono (unhide HB46).size))
            rw [← unhide HN] at hwt
            have hLX := (want_same hwt (unhide HOTH)).1
            obtain ⟨p7, c7, rfl⟩ := slice_of hown7
            clear hown7 hwt hb7
            rw [← hLX]
            clear hLX
            go_wp2_with fail
            refine (unhide HR _ (unhide HB47)).mono ?_
            rintro e w8 ⟨rfl, hb8⟩
            have HB48 := hide ((unhide HB47).trans (hb8.mono (unhide HB47).size))
            clear hb8
            go_wp2
            go_ret
            exact ⟨rfl, (unhide HB4).trans ((unhide HB48).mono (unhide HB4).size)⟩
end Go.Proofs.Qxb6615037a
