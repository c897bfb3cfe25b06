/-
  The law's walk.
-/
import Derived.Test.Qxb6615079aRd
import Derived.Deep.CutRange
namespace Go.Proofs.Qxb6615079a
open Go.RowKit

/-- an int slice that came in -/
structure Ints (w : World) (a : Option Addr) (c : Nat) (xs : List Int) : Prop where
  row : VRow w a (xs.map (Value.int .i64))
  nil : a = none → xs = [] ∧ c = 0
/-- a slice of slices that came in -/
structure Nest (w : World) (a : Option Addr) (c : Nat) (cs : List In) : Prop where
  row : NRow w a cs
  nil : a = none → cs = [] ∧ c = 0

/-- the first k numbers rise -/
def Inc (sq : List Int) (k : Nat) : Prop := ∀ (j : Nat) (x y : Int), j + 1 < k → sq[j]? = some x → sq[j + 1]? = some y → x < y
theorem Inc.one (sq : List Int) : Inc sq 1 := fun _ _ _ h => absurd h (by omega)
theorem Inc.succ {sq : List Int} {k : Nat} (h : Inc sq (k + 1)) {x y : Int} (hx : sq[k]? = some x) (hy : sq[k + 1]? = some y) (hl : x < y) : Inc sq (k + 1 + 1) := by
  intro j x' y' hj hx' hy'
  by_cases e : j = k
  · subst e
    rw [hx] at hx'
    rw [hy] at hy'
    cases hx'
    cases hy'
    exact hl
  · exact h j x' y' (by omega) hx' hy'
theorem Inc.lt {sq : List Int} (h : Inc sq sq.length) : ∀ (d i : Nat) (x y : Int), sq[i]? = some x → sq[i + d + 1]? = some y → x < y := by
  intro d
  induction d with
  | zero => exact fun i x y hx hy => h i x y (List.getElem?_eq_some_iff.1 hy).1 hx hy
  | succ d ih =>
    intro i x y hx hy
    have hl := (List.getElem?_eq_some_iff.1 hy).1
    have hm : sq[i + d + 1]? = some sq[i + d + 1] := List.getElem?_eq_getElem (by omega)
    have h1 := ih i x _ hx hm
    have h2 := h (i + d + 1) _ y (by omega) hm hy
    omega
theorem Inc.only {sq : List Int} (h : Inc sq sq.length) {k : Nat} {s : Int} (hk : sq[k]? = some s) : Only sq s k := by
  refine ⟨hk, fun i hi => ?_⟩
  rcases Nat.lt_trichotomy i k with h1 | h1 | h1
  · have := h.lt (k - i - 1) i s s hi (by rw [show i + (k - i - 1) + 1 = k by omega]; exact hk)
    omega
  · exact h1
  · have := h.lt (i - k - 1) k s s hk (by rw [show k + (i - k - 1) + 1 = i by omega]; exact hi)
    omega

theorem Ints.on {w w' : World} {a : Option Addr} {c : Nat} {xs : List Int} {B : Nat} (h : Ints w a c xs) (hb : Below B w w') (hB : w.heap.size ≤ B) : Ints w' a c xs := ⟨h.row.on hB hb, h.nil⟩
theorem Nest.on {w w' : World} {a : Option Addr} {c : Nat} {cs : List In} {B : Nat} (h : Nest w a c cs) (hb : Below B w w') (hB : w.heap.size ≤ B) : Nest w' a c cs := ⟨h.row.on hB hb, h.nil⟩
theorem Grid.mono {w : World} {base base' : Nat} {v : Value} {vs : List Value} (h : Grid w base v vs) (hb : base' ≤ base) : Grid w base' v vs := ⟨own_mono h.row hb, fun i hi u hu => (h.each i hi u hu).mono hb⟩

theorem ints_own {w : World} {base g n cap : Nat} {xs : List Int} (h : w.ownsRow base 3 1 (.slice (some ⟨g, 0, none⟩) n cap) n (xs.map (Value.int .i64))) : Ints w (some ⟨g, 0, none⟩) cap xs := by
  refine ⟨?_, fun e => nomatch e⟩
  cases hx : xs.map (Value.int .i64) with
  | nil => exact .inl rfl
  | cons x l =>
    rw [hx] at h
    exact .inr ⟨g, 0, rfl, (own_cell h (i := 0) rfl).2.2, fun i v hv => by rw [Nat.zero_add]; exact (own_cell h hv).1⟩

/-- the search's answer: none, or a place that holds seq -/
def Look (sq : List Int) (seq : Int) (z : Int) : Prop := z = -1 ∨ ∃ k : Nat, z = k ∧ sq[k]? = some seq

set_option maxHeartbeats 4000000 in
set_option maxRecDepth 100000 in
theorem law_any (a0 a2 a3 a4 : Option Addr) (c0 c2 c3 c4 : Nat) (cs ps : List In) (sq xs : List Int) (x1 x5 x6 x7 x10 : Int) (name : ByteArray) (at9 : Bool) (w : World) (hc : Nest w a0 c0 cs) (hs : Ints w a2 c2 sq) (hx : Ints w a3 c3 xs) (hp : Nest w a4 c4 ps)
    (l0 : cs.length ≤ 9223372036854775807) (l2 : sq.length ≤ 9223372036854775807) (l3 : xs.length ≤ 9223372036854775807) (l4 : ps.length ≤ 9223372036854775807) (l8 : name.size ≤ 9223372036854775807) :
    Calls Try.prog 10 #[.slice a0 cs.length c0, .int .i64 x1, .slice a2 sq.length c2, .slice a3 xs.length c3, .slice a4 ps.length c4, .int .i64 x5, .int .i64 x6, .int .i64 x7, .string name, .bool at9, .int .i64 x10] w fun e w' => e = .returned (.bool true) ∧ Below w.heap.size w w' := by
  have HBY := hide (bytes_any a0 a2 a3 a4 c0 c2 c3 c4 cs ps sq.length xs.length x1 x5 x6 x7 x10 name at9 w hc.row hp.row l0 l2 l3 l4 l8)
  have HNC := hide (fun x (h : cs.length ≤ 1048576) => nested_any a0 c0 cs x w hc.row h)
  have HNP := hide (fun x (h : ps.length ≤ 1048576) => nested_any a4 c4 ps x w hp.row h)
  have HC := hide hc
  have HS := hide hs
  have HX := hide hx
  have HP := hide hp
  clear hc hs hx hp
  generalize hnc : cs.length = nc at *
  have HLC := hide hnc
  clear hnc
  generalize hnp : ps.length = np at *
  have HLP := hide hnp
  clear hnp
  generalize hns : sq.length = ns at *
  have HLS := hide hns
  clear hns
  generalize hnx : xs.length = nx at *
  have HLX := hide hnx
  clear hnx
  go_enter Try.func10, Try.ntmps10
  go_wp2_with fail
  refine (unhide HBY).mono ?_
  rintro e w1 ⟨⟨r, rfl, hr⟩, hw1⟩
  subst hw1
  cases r with
  | false =>
    go_wp2
    go_ret
    exact ⟨rfl, Below.refl _ _⟩
  | true =>
    have hz := hr rfl
    have HZ := hide hz
    have z1 := hz.cl
    have z2 := hz.sl
    have z3 := hz.vl
    have z4 := hz.pl
    clear hr hz
    go_wp2_with fail
    refine (unhide HNC _ z1).mono ?_
    rintro e w2 ⟨⟨tb, rfl⟩, hw2⟩
    subst hw2
    by_cases g1 : 1048576 < tb
    · go_wp2
      go_ret
      exact ⟨rfl, Below.refl _ _⟩
    go_wp2_with fail
    refine (unhide HNP _ z4).mono ?_
    rintro e w3 ⟨⟨tp, rfl⟩, hw3⟩
    subst hw3
    go_upto_region 19 with fail
    all_goals first | (go_ret; exact ⟨rfl, Below.refl _ _⟩) | skip
    by_cases g2 : x1 < 0
    · go_wp2
      go_ret
      exact ⟨rfl, Below.refl _ _⟩
    by_cases g3 : 65536 < x1
    · go_wp2
      go_ret
      exact ⟨rfl, Below.refl _ _⟩
    obtain ⟨v, rfl⟩ : ∃ v : Nat, x1 = v := ⟨x1.toNat, by omega⟩
    by_cases g4 : ns = 0
    · subst g4
      go_wp2
      go_ret
      exact ⟨rfl, Below.refl _ _⟩
    have b4 : ((ns : Int) == 0) = false := by simp; omega
    by_cases g5 : ¬ nx = ns
    · have g5' : ((nx : Int) != ns) = true := by simp; omega
      go_wp2
      go_ret
      exact ⟨rfl, Below.refl _ _⟩
    have g5 := Decidable.not_not.1 g5
    subst g5
    by_cases g6 : ¬ np = nx
    · have g6' : ((np : Int) != nx) = true := by simp; omega
      go_wp2
      go_ret
      exact ⟨rfl, Below.refl _ _⟩
    have g6 := Decidable.not_not.1 g6
    subst g6
    by_cases g7 : x6 < 0
    · go_wp2
      go_ret
      exact ⟨rfl, Below.refl _ _⟩
    by_cases g8 : (nc : Int) ≤ x6
    · go_wp2
      go_ret
      exact ⟨rfl, Below.refl _ _⟩
    obtain ⟨g, rfl⟩ : ∃ g : Nat, x6 = g := ⟨x6.toNat, by omega⟩
    obtain ⟨q, rfl⟩ : ∃ q, np = q + 1 := ⟨np - 1, by omega⟩
    clear g4 g5 g6
    have hcs : ∃ b2 o2, a2 = some ⟨b2, o2, none⟩ ∧ b2 < w3.heap.size ∧ ∀ (i : Nat) (x : Int), sq[i]? = some x → w3.cell? ⟨b2, o2 + i, none⟩ = some (.int .i64 x) := by
      rcases (unhide HS).row with h | ⟨b2, o2, h1, h2, h3⟩
      · have h4 := congrArg List.length h
        have h5 := unhide HLS
        simp at h4
        simp [h4] at h5
      · exact ⟨b2, o2, h1, h2, fun i x hi => h3 i _ (by simp [hi])⟩
    obtain ⟨b2, o2, rfl, hb2, hcs⟩ := hcs
    have HCS := hide hcs
    clear hcs
    have hat : ∀ i, i < q + 1 → ∃ x, sq[i]? = some x := fun i hi => ⟨_, List.getElem?_eq_getElem (by rw [unhide HLS]; exact hi)⟩
    have HAT := hide hat
    clear hat
    obtain ⟨s0, hs0⟩ := unhide HAT 0 (by omega)
    have c0' : w3.cell? ⟨b2, o2, none⟩ = some (.int .i64 s0) := unhide HCS 0 s0 hs0
    have HS0 := hide hs0
    clear hs0
    by_cases g9 : s0 < 0
    · go_wp2
      go_ret
      exact ⟨rfl, Below.refl _ _⟩
    go_wp2
    go_loopw [26] (fun t wr => ∃ i : Nat, i + 1 ≤ q + 1 ∧ t = .int .i64 ((i + 1 : Nat) : Int) ∧ Inc sq (i + 1) ∧ Below w3.heap.size w3 wr) (fun t _ => q + 1 - (intOf t).toNat)
    case atStart => exact ⟨0, by omega, rfl, Inc.one _, Below.refl _ _⟩
    case round =>
      obtain ⟨i, hi, rfl, hinc, hwr⟩ := hrel
      have HWR := hide hwr
      have HINC := hide hinc
      clear hinc hwr c0'
      by_cases hlt : i + 1 < q + 1
      · obtain ⟨y, hy⟩ := unhide HAT (i + 1) hlt
        obtain ⟨x, hx⟩ := unhide HAT i (by omega)
        have cy := ((unhide HWR).cell (p := ⟨b2, o2 + (i + 1), none⟩) hb2).trans (unhide HCS _ _ hy)
        have cx := ((unhide HWR).cell (p := ⟨b2, o2 + i, none⟩) hb2).trans (unhide HCS _ _ hx)
        have HY := hide hy
        have HXX := hide hx
        clear hy hx
        by_cases hle : y ≤ x
        · go_wp2
          go_quiet (fail)
          go_wp2
          go_ret
          exact ⟨rfl, (unhide HWR).trans ⟨rfl, rfl, rfl, Nat.le_refl _, fun _ _ => rfl⟩⟩
        · go_wp2
          go_quiet (fail)
          go_wp2
          go_roundw
          case rel => exact ⟨i + 1, by omega, by go_num, (unhide HINC).succ (unhide HXX) (unhide HY) (by omega), (unhide HWR).trans ⟨rfl, rfl, rfl, Nat.le_refl _, fun _ _ => rfl⟩⟩
          case measure => simp [intOf]; omega
      · have hiq : i = q := by omega
        subst hiq
        obtain ⟨s1, hs1⟩ := unhide HAT i (by omega)
        have c1' := ((unhide HWR).cell (p := ⟨b2, o2 + i, none⟩) hb2).trans (unhide HCS _ _ hs1)
        have HS1 := hide hs1
        clear hs1
        by_cases g10 : x5 ≤ s1
        · go_wp2
          go_ret
          exact ⟨rfl, unhide HWR⟩
        go_wp2
        clear c1'
        go_loopw [28, 29] (fun t28 t29 wr2 => ∃ (k : Nat) (z : Int), k ≤ i + 1 ∧ t29 = .int .i64 k ∧ t28 = .int .i64 z ∧ Look sq x10 z ∧ Below w3.heap.size w3 wr2) (fun _ t29 _ => i + 1 - (intOf t29).toNat)
        case atStart => exact ⟨0, -1, by omega, rfl, rfl, .inl rfl, unhide HWR⟩
        case round =>
          obtain ⟨k, z, hk, rfl, rfl, hlook, hwr2⟩ := hrel
          have HWR2 := hide hwr2
          have HLO := hide hlook
          clear hwr2 hlook
          by_cases hlt2 : k < i + 1
          · obtain ⟨x, hx⟩ := unhide HAT k hlt2
            have cx := ((unhide HWR2).cell (p := ⟨b2, o2 + k, none⟩) hb2).trans (unhide HCS _ _ hx)
            have HXX := hide hx
            clear hx
            cases he : (x == x10) with
            | true =>
              have HE := hide (show x = x10 by simpa using he)
              go_wp2
              go_roundw
              case rel => exact ⟨k + 1, k, by omega, by go_num, rfl, .inr ⟨k, rfl, by rw [unhide HXX, unhide HE]⟩, unhide HWR2⟩
              case measure => simp [intOf]; omega
            | false =>
              go_wp2
              go_roundw
              case rel => exact ⟨k + 1, z, by omega, by go_num, rfl, unhide HLO, unhide HWR2⟩
              case measure => simp [intOf]; omega
          · by_cases hz : z < 0
            · go_wp2
              go_ret
              exact ⟨rfl, unhide HWR2⟩
            obtain ⟨idx, rfl, hidx⟩ : ∃ idx : Nat, z = idx ∧ sq[idx]? = some x10 := by
              rcases unhide HLO with h | h
              · omega
              · exact h
            have hon : Only sq x10 idx := Inc.only (by rw [unhide HLS]; exact unhide HINC) hidx
            have ho0 : Only sq s0 0 := Inc.only (by rw [unhide HLS]; exact unhide HINC) (unhide HS0)
            have hil : idx < i + 1 := by
              have := (List.getElem?_eq_some_iff.1 hidx).1
              rw [unhide HLS] at this
              exact this
            obtain ⟨xv, hxv⟩ : ∃ x, xs[idx]? = some x := ⟨_, List.getElem?_eq_getElem (by rw [unhide HLX]; exact hil)⟩
            obtain ⟨xl, hxl⟩ : ∃ x, xs[i]? = some x := ⟨_, List.getElem?_eq_getElem (by rw [unhide HLX]; omega)⟩
            obtain ⟨x0, hx0⟩ : ∃ x, xs[0]? = some x := ⟨_, List.getElem?_eq_getElem (by rw [unhide HLX]; omega)⟩
            have HON := hide hon
            have HO0 := hide ho0
            have HXV := hide hxv
            have HXL := hide hxl
            have HX0 := hide hx0
            have hsz0 := (unhide HWR2).size
            have HCU := cloneUU_any a0 c0 cs wr ((unhide HC).row.on (Nat.le_refl _) (unhide HWR2)) (by rw [unhide HLC]; exact z1) (by rw [unhide HLC]; exact (unhide HZ).ci) (unhide HC).nil
            rw [unhide HLC] at HCU
            have HCU := hide HCU
            clear hon ho0 hxv hxl hx0 hidx HNC HNP HBY HLO HWR
            go_wp2_with fail
            refine (unhide HCU).mono ?_
            rintro e w4 ⟨⟨v0, vs, rfl, hvl, hgr0⟩, hb4⟩
            obtain ⟨p0, k0, e0⟩ := slice_of hgr0.row
            rw [hvl] at e0
            subst e0
            have HGR0 := hide hgr0
            have HVL := hide hvl
            have HB4 := hide hb4
            have hsz4 := hb4.size
            have hw4 := (unhide HWR2).trans (hb4.mono hsz0)
            have HW4 := hide hw4
            have HC2 := cloneInts_any (some ⟨b2, o2, none⟩) c2 sq w4 ((unhide HS).on hw4 (Nat.le_refl _)).row (by rw [unhide HLS]; exact z2) (fun e => nomatch e)
            rw [unhide HLS] at HC2
            have HC2 := hide HC2
            clear hgr0 hvl hb4 hw4 HCU
            go_wp2_with fail
            refine (unhide HC2).mono ?_
            rintro e w5 ⟨v2, rfl, hr2, hb5⟩
            obtain ⟨q2, k2, rfl, hq2, hq2'⟩ := hr2.form (by omega)
            have HR2 := hide hr2
            have HB5 := hide hb5
            have hsz5 := hb5.size
            have hw5 := (unhide HW4).trans (hb5.mono (by omega))
            have HW5 := hide hw5
            have HC3 := cloneInts_any a3 c3 xs w5 ((unhide HX).on hw5 (Nat.le_refl _)).row (by rw [unhide HLX]; exact z3) (unhide HX).nil
            rw [unhide HLX] at HC3
            have HC3 := hide HC3
            clear hr2 hb5 hw5 HC2
            go_wp2_with fail
            refine (unhide HC3).mono ?_
            rintro e w6 ⟨v3, rfl, hr3, hb6⟩
            obtain ⟨q3, k3, rfl, hq3, hq3'⟩ := hr3.form (by omega)
            have HR3 := hide hr3
            have HB6 := hide hb6
            have hsz6 := hb6.size
            have hw6 := (unhide HW5).trans (hb6.mono (by omega))
            have HW6 := hide hw6
            have HCP := cloneUU_any a4 c4 ps w6 ((unhide HP).row.on (Nat.le_refl _) hw6) (by rw [unhide HLP]; exact z4) (by rw [unhide HLP]; exact (unhide HZ).pi) (unhide HP).nil
            rw [unhide HLP] at HCP
            have HCP := hide HCP
            clear hr3 hb6 hw6 HC3
            go_wp2_with fail
            refine (unhide HCP).mono ?_
            rintro e w7 ⟨⟨v4, pv, rfl, hpl, hgr4⟩, hb7⟩
            obtain ⟨p4, k4, e0⟩ := slice_of hgr4.row
            rw [hpl] at e0
            subst e0
            have HGR4 := hide hgr4
            have HPL := hide hpl
            have HB7 := hide hb7
            have hsz7 := hb7.size
            have hw7 := (unhide HW6).trans (hb7.mono (by omega))
            have HW7 := hide hw7
            have hr2' := own_below (own_below (unhide HR2) (unhide HB6) (Nat.le_refl _)) hb7 (Nat.le_refl _)
            have HR2' := hide hr2'
            have HC5 := cloneInts_any _ k2 sq w7 (ints_own hr2').row (by rw [unhide HLS]; exact z2) (fun e => nomatch e)
            rw [unhide HLS] at HC5
            have HC5 := hide HC5
            clear hgr4 hpl hb7 hw7 hr2' HCP
            go_wp2_with fail
            refine (unhide HC5).mono ?_
            rintro e w8 ⟨v5, rfl, hr5, hb8⟩
            obtain ⟨q5, k5, rfl, hq5, hq5'⟩ := hr5.form (by omega)
            have HR5 := hide hr5
            have HB8 := hide hb8
            have hsz8 := hb8.size
            have hw8 := (unhide HW7).trans (hb8.mono (by omega))
            have HW8 := hide hw8
            have hr3' := own_below (own_below (unhide HR3) (unhide HB7) (Nat.le_refl _)) hb8 (Nat.le_refl _)
            have HR3' := hide hr3'
            have HC6 := cloneInts_any _ k3 xs w8 (ints_own hr3').row (by rw [unhide HLX]; exact z3) (fun e => nomatch e)
            rw [unhide HLX] at HC6
            have HC6 := hide HC6
            clear hr5 hb8 hw8 hr3' HC5
            go_wp2_with fail
            refine (unhide HC6).mono ?_
            rintro e w9 ⟨v6, rfl, hr6, hb9⟩
            obtain ⟨q6, k6, rfl, hq6, hq6'⟩ := hr6.form (by omega)
            have hsz9 := hb9.size
            have hw9 := (unhide HW8).trans (hb9.mono (by omega))
            have HR6 := hide hr6
            have HB9 := hide hb9
            have HW9 := hide hw9
            have h49 := (((((unhide HB5).trans ((unhide HB6).mono (by omega))).trans ((unhide HB7).mono (by omega))).trans ((unhide HB8).mono (by omega))).trans (hb9.mono (by omega)))
            have h79 := (unhide HB8).trans (hb9.mono hsz8)
            have H49 := hide h49
            have H79 := hide h79
            have hs9 : IRow w9 wr.heap.size (.slice (some ⟨q2, 0, none⟩) (i + 1) k2) sq := by
              unfold IRow
              rw [unhide HLS]
              exact own_mono (own_below (unhide HR2') h79 (Nat.le_refl _)) (by omega)
            have hx9 : IRow w9 wr.heap.size (.slice (some ⟨q3, 0, none⟩) (i + 1) k3) xs := by
              unfold IRow
              rw [unhide HLX]
              exact own_mono (own_below (unhide HR3') hb9 (Nat.le_refl _)) (by omega)
            have HMS := hide (mstore_any wr.heap.size _ _ _ _ vs pv sq xs v x5 w9 ((unhide HGR0).on h49 (Nat.le_refl _)) hs9 hx9 (((unhide HGR4).on h79 (Nat.le_refl _)).mono (by omega)) (by rw [unhide HVL]; exact z1) (by rw [unhide HLS]; exact z2) (by rw [unhide HLX, unhide HLS]) (by rw [unhide HPL, unhide HLS]) (by omega))
            clear hr6 hb9 hw9 h49 h79 hs9 hx9 HC6 HR2 HR3 HR2' HR3' HB4 HB5 HB6 HB7 HB8 HW4 HW5 HW6 HW7 HW8 HCS HAT HC HS HX HP
            go_wp2_with fail
            refine (unhide HMS).mono ?_
            rintro e w10 ⟨rfl, hst, hb10⟩
            have hsz10 := hb10.size
            have hlens : Lens sq xs pv v := ⟨by rw [unhide HLX, unhide HLS], by rw [unhide HPL, unhide HLS], by rw [unhide HLS]; exact z2, by omega⟩
            have HLE := hide hlens
            have HW1 := hide (zzwritten_any w10 hst hlens x10 xv idx (unhide HON) (unhide HXV))
            have HST := hide hst
            have HB10 := hide hb10
            clear hst hb10 hlens HMS
            go_wp2_with fail
            refine (unhide HW1).mono ?_
            rintro e w11 ⟨rfl, hb11⟩
            have hsz11 := hb11.size
            have hst11 := (unhide HST).on hb11
            have h911 := (unhide HB10).trans (hb11.mono hsz10)
            obtain ⟨u, hu⟩ : ∃ u, vs[g]? = some u := ⟨_, List.getElem?_eq_getElem (by rw [unhide HVL]; omega)⟩
            obtain ⟨ys, hys, hyo⟩ := (unhide HGR0).each g (by rw [unhide HVL]; omega) u hu
            have hk11 : ClkA w11 wr.heap.size w6.heap.size w9.heap.size u ys.length :=
              ⟨ys, rfl, own_below (own_below hyo (unhide H49) (Nat.le_refl _)) h911 (Nat.le_refl _), fun j hj => .inl (by have := (own_block hyo hj).2; omega)⟩
            obtain ⟨o, ho⟩ : ∃ o, pv[idx]? = some o := ⟨_, List.getElem?_eq_getElem (by rw [unhide HPL]; omega)⟩
            obtain ⟨zs, hzs, hzo⟩ := (unhide HGR4).each idx (by rw [unhide HPL]; omega) o ho
            have hp11 : PassA w11 w6.heap.size w9.heap.size o zs.length :=
              ⟨zs, rfl, own_below (own_below hzo (unhide H79) (Nat.le_refl _)) h911 (Nat.le_refl _), fun j hj => by have := (own_block hzo hj).2; omega⟩
            have HRD := hide (zzread_any wr.heap.size w6.heap.size ys.length zs.length g u o x7 name at9 x10 xv idx w11 hst11 (unhide HLE) (unhide HON) (unhide HXV) ho hu hk11 hp11 hys hzs (by omega) (by rw [unhide HVL]; exact z1) (by omega) (by omega))
            have hr5 := own_below (own_below (unhide HR5) (unhide HB9) (Nat.le_refl _)) h911 (Nat.le_refl _)
            have hr6 := own_below (unhide HR6) h911 (Nat.le_refl _)
            have HR5 := hide hr5
            have HR6 := hide hr6
            have HBW := hide (((unhide HW9).trans (h911.mono (by omega))))
            clear hst11 h911 hu hyo hys hk11 ho hzo hzs hp11 hb11 hr5 hr6 HW1 HST HB10 HW9 HB9 HGR0 HGR4 H49 H79
            go_wp2_with fail
            refine (unhide HRD).mono ?_
            rintro e w12 ⟨rfl, ⟨u', hv', hst12⟩, hb12, hkp12⟩
            have HK6 := hide (show ∀ W, Below w12.heap.size w12 W → ∀ (j : Nat) (x : Int), xs[j]? = some x → W.cell? ⟨q6, j, none⟩ = some (.int .i64 x) from fun W hW j x hj => (hW.cell (p := ⟨q6, j, none⟩) (by show q6 < w12.heap.size; have := hb12.size; omega)).trans ((World.cell?_of_block (w := w11) (a := ⟨q6, j, none⟩) (hkp12 q6 (by omega) (by omega))).trans (own_cell (unhide HR6) (by simp [hj])).1))
            have HK5 := hide (show ∀ W, Below w12.heap.size w12 W → ∀ (j : Nat) (x : Int), sq[j]? = some x → W.cell? ⟨q5, j, none⟩ = some (.int .i64 x) from fun W hW j x hj => (hW.cell (p := ⟨q5, j, none⟩) (by show q5 < w12.heap.size; have := hb12.size; omega)).trans ((World.cell?_of_block (w := w11) (a := ⟨q5, j, none⟩) (hkp12 q5 (by omega) (by omega))).trans (own_cell (unhide HR5) (by simp [hj])).1))
            have HB12 := hide ((unhide HBW).trans (hb12.mono hsz0))
            have HST := hide hst12
            have S0 : Below w12.heap.size w12 w12.drew ∧ w12.drew.cell? ⟨q6, idx, none⟩ = some (.int .i64 xv) ∧ w12.drew.cell? ⟨q6, 0, none⟩ = some (.int .i64 x0) ∧ w12.drew.cell? ⟨q6, i, none⟩ = some (.int .i64 xl) ∧ w12.drew.cell? ⟨q5, 0, none⟩ = some (.int .i64 s0) := ⟨(Below.refl _ _).drew, unhide HK6 _ (Below.refl _ _).drew _ _ (unhide HXV), unhide HK6 _ (Below.refl _ _).drew _ _ (unhide HX0), unhide HK6 _ (Below.refl _ _).drew _ _ (unhide HXL), unhide HK5 _ (Below.refl _ _).drew _ _ (unhide HS0)⟩
            have HA1 := hide (show ∀ W, Below w12.heap.size w12 W → Calls Try.prog 42 #[.pointer (some ⟨w9.heap.size + 3, 0, none⟩), .int .i64 v, .int .i64 x10] W fun e w' => e = .returned (.int .i64 xv) ∧ Below w12.heap.size w12 w' from fun W hW => (zzwritten_any W ((unhide HST).on hW) (unhide HLE) x10 xv idx (unhide HON) (unhide HXV)).mono (fun e w' h => ⟨h.1, hW.trans (h.2.mono hW.size)⟩))
            have HA2 := hide (show ∀ W, Below w12.heap.size w12 W → Calls Try.prog 42 #[.pointer (some ⟨w9.heap.size + 3, 0, none⟩), .int .i64 v, .int .i64 s0] W fun e w' => e = .returned (.int .i64 x0) ∧ Below w12.heap.size w12 w' from fun W hW => (zzwritten_any W ((unhide HST).on hW) (unhide HLE) s0 x0 0 (unhide HO0) (unhide HX0)).mono (fun e w' h => ⟨h.1, hW.trans (h.2.mono hW.size)⟩))
            have HA3 := hide (show ∀ W, Below w12.heap.size w12 W → Calls Try.prog 43 #[.pointer (some ⟨w9.heap.size + 3, 0, none⟩), .int .i64 v] W fun e w' => e = .returned (.int .i64 xl) ∧ Below w12.heap.size w12 w' from fun W hW => (zzlatest_any W ((unhide HST).on hW) (unhide HLE) (by rw [unhide HLS]; omega) xl (by rw [unhide HLS]; exact unhide HXL)).mono (fun e w' h => ⟨h.1, hW.trans (h.2.mono hW.size)⟩))
            have HA4 := hide (show ∀ W, Below w12.heap.size w12 W → Calls Try.prog 44 #[.pointer (some ⟨w9.heap.size + 3, 0, none⟩), .int .i64 v] W fun e w' => e = .returned (.int .i64 x5) ∧ Below w12.heap.size w12 w' from fun W hW => (next_any W ((unhide HST).on hW) (unhide HLE)).mono (fun e w' h => ⟨h.1, by rw [h.2]; exact hW⟩))
            have HA5 := hide (show ∀ W, Below w12.heap.size w12 W → Calls Try.prog 39 #[.pointer (some ⟨w9.heap.size + 3, 0, none⟩)] W fun e w' => e = .returned (.int .i64 0) ∧ Below w12.heap.size w12 w' from fun W hW => (work_any W ((unhide HST).on hW)).mono (fun e w' h => ⟨h.1, by rw [h.2]; exact hW⟩))
            have HA6 := hide (show ∀ W, Below w12.heap.size w12 W → Calls Try.prog 40 #[.pointer (some ⟨w9.heap.size + 3, 0, none⟩)] W fun e w' => e = .returned (.int .i64 0) ∧ Below w12.heap.size w12 w' from fun W hW => (races_any W ((unhide HST).on hW)).mono (fun e w' h => ⟨h.1, by rw [h.2]; exact hW⟩))
            have HKK := hide (show ∀ W, Below w12.heap.size w12 W → Below w12.heap.size w12 W ∧ W.cell? ⟨q6, idx, none⟩ = some (.int .i64 xv) ∧ W.cell? ⟨q6, 0, none⟩ = some (.int .i64 x0) ∧ W.cell? ⟨q6, i, none⟩ = some (.int .i64 xl) ∧ W.cell? ⟨q5, 0, none⟩ = some (.int .i64 s0) from fun W hW => ⟨hW, unhide HK6 _ hW _ _ (unhide HXV), unhide HK6 _ hW _ _ (unhide HX0), unhide HK6 _ hW _ _ (unhide HXL), unhide HK5 _ hW _ _ (unhide HS0)⟩)
            clear hst12 hb12 hkp12 HRD HBW
            have hb1i : (idx : Int) < (i : Int) + 1 := by omega
            have hb2i : (i : Int) < (i : Int) + 1 := by omega
            go_wp2_with fail
            dsimp only [List.append]
            go_region_held3 (fun w' => Below w12.heap.size w12 w' ∧ w'.cell? ⟨q6, idx, none⟩ = some (.int .i64 xv) ∧ w'.cell? ⟨q6, 0, none⟩ = some (.int .i64 x0) ∧ w'.cell? ⟨q6, i, none⟩ = some (.int .i64 xl) ∧ w'.cell? ⟨q5, 0, none⟩ = some (.int .i64 s0))
              (first | with_reducible exact S0 | (refine unhide HKK _ ?_; assumption))
              (first
                | (go_at_call 42; with_reducible refine (unhide HA1 _ (And.left (by assumption))).mono ?_; rintro e W2 ⟨rfl, hW2⟩)
                | (go_at_call 42; with_reducible refine (unhide HA2 _ (And.left (by assumption))).mono ?_; rintro e W2 ⟨rfl, hW2⟩)
                | (go_at_call 43; with_reducible refine (unhide HA3 _ (And.left (by assumption))).mono ?_; rintro e W2 ⟨rfl, hW2⟩)
                | (go_at_call 44; with_reducible refine (unhide HA4 _ (And.left (by assumption))).mono ?_; rintro e W2 ⟨rfl, hW2⟩)
                | (go_at_call 39; with_reducible refine (unhide HA5 _ (And.left (by assumption))).mono ?_; rintro e W2 ⟨rfl, hW2⟩)
                | (go_at_call 40; with_reducible refine (unhide HA6 _ (And.left (by assumption))).mono ?_; rintro e W2 ⟨rfl, hW2⟩))
            go_wp2
            go_ret
            exact ⟨rfl, (unhide HB12).trans (hW2.mono (unhide HB12).size)⟩
end Go.Proofs.Qxb6615079a
