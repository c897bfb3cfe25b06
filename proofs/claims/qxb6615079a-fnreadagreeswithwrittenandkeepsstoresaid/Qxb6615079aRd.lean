/-
  Read.
-/
import Derived.Test.Qxb6615079aAccess
namespace Go.Proofs.Qxb6615079a
open Go.RowKit

theorem set_self {α : Type} {l : List α} {i : Nat} {a : α} (h : l[i]? = some a) : l.set i a = l := by
  apply List.ext_getElem?
  intro j
  rw [List.getElem?_set]
  split
  · rename_i e
    subst e
    have := (List.getElem?_eq_some_iff.1 h).1
    rw [if_pos this, h]
  · rfl

/-- goroutine g's clock is joined (or left alone); the box lies -/
def Jn (w : World) (base Bp B v g bx : Nat) (vs ps : List Value) (sq xs : List Int) (next pos : Int) (name : ByteArray) (atm : Bool) (wx : World) : Prop := ∃ (u' : Value) (n' : Nat), n' ≤ 1048576 ∧ St wx B v (vs.set g u') ps sq xs next (.slice none 0 0) 0 ∧ ClkA wx base Bp B u' n' ∧ Below base w wx ∧ Kept Bp B w wx ∧ wx.heap[bx]? = some (.cells #[.int .i64 pos, .int .u8 0, .string name, .bool atm] 99)

set_option maxHeartbeats 4000000 in
set_option maxRecDepth 100000 in
theorem read_any {B v : Nat} {vs ps : List Value} {sq xs : List Int} {next : Int} (base Bp n m g : Nat) (u o : Value) (pos : Int) (name : ByteArray) (atm : Bool) (seq x : Int) (idx : Nat) (w : World) (h : St w B v vs ps sq xs next (.slice none 0 0) 0) (hl : Lens sq xs ps v) (ho : Only sq seq idx) (hx : xs[idx]? = some x) (hp : ps[idx]? = some o)
    (hu : vs[g]? = some u) (hk : ClkA w base Bp B u n) (hpa : PassA w Bp B o m) (hn : n ≤ 1048576) (hm : m ≤ 1048576) (hg : g ≤ 1048576) (hk1 : vs.length ≤ 1048576) (hb : base ≤ B) (hBp : Bp ≤ B) :
    Calls Try.prog 53 #[.pointer (some ⟨B + 3, 0, none⟩), .int .i64 g, .int .i64 v, .agg #[.int .i64 pos, .int .u8 0, .string name, .bool atm], .int .i64 seq] w fun e w' => e = .returned (.iface 3 (.int .i64 x)) ∧ (∃ u' hv', St w' B v (vs.set g u') ps sq xs next hv' 0) ∧ Below base w w' ∧ Kept Bp B w w' := by
  have hal : Below w.heap.size w (w.alloc (.cells #[.int .i64 pos, .int .u8 0, .string name, .bool atm] 99)) := (Below.refl _ _).alloc (Nat.le_refl _) _
  have hzl : (w.alloc (.cells #[.int .i64 pos, .int .u8 0, .string name, .bool atm] 99)).heap.size = w.heap.size + 1 := by simp
  have hbx : (w.alloc (.cells #[.int .i64 pos, .int .u8 0, .string name, .bool atm] 99)).heap[w.heap.size]? = some (.cells #[.int .i64 pos, .int .u8 0, .string name, .bool atm] 99) := zn w _
  have h1 := h.on hal
  have HSTO := hide (store_any _ h1 hl.hv)
  have HNUM := hide (numbered_any _ h1 hl.h1 hl.h2 hl.hn seq idx ho)
  obtain ⟨ys, hyl, hyo, hya⟩ := id hk
  obtain ⟨pu, cu, rfl⟩ := slice_of hyo
  obtain ⟨zs, hzl2, hzo, hza⟩ := id hpa
  obtain ⟨po, co, rfl⟩ := slice_of hzo
  have hs := ho.1
  have hidx := (List.getElem?_eq_some_iff.1 hs).1
  have hgv := (List.getElem?_eq_some_iff.1 hu).1
  have hlt := h.lt
  have HUB : ∀ j, (Value.slice pu n cu).ownBlock = some j → j < w.heap.size := fun j hj => (own_block hyo hj).2
  have hn5 := hl.hn
  have hv := hl.hv
  have HS := hide hs
  have HX := hide hx
  have HP := hide hp
  have HU := hide hu
  have HK := hide hk
  have HPA := hide hpa
  have HST := hide h
  have HLV := hide hl
  have HBX := hide hbx
  have HAL := hide hal
  have HZL := hide hzl
  have HUBH := hide HUB
  clear h hk hpa hx hp hu hs ho hyo hzo hyl hya hza h1 hbx hal hl HUB hzl hzl2 ys zs
  generalize hsl : sq.length = sl at *
  have HSL := hide hsl
  clear hsl
  generalize hvl : vs.length = vl at *
  have HVL := hide hvl
  clear hvl
  go_enter Try.func53, Try.ntmps53
  go_wp2_with fail
  refine (unhide HSTO).mono ?_
  rintro e w0 ⟨rfl, rfl⟩
  go_wp2_with fail
  refine (unhide HNUM).mono ?_
  rintro e w1 ⟨rfl, hb1⟩
  have hal1 := (unhide HAL).trans (hb1.mono (by rw [unhide HZL]; omega))
  have hst1 := (unhide HST).on hal1
  have hbx1 := (hb1.block w.heap.size (by rw [unhide HZL]; omega)).trans (unhide HBX)
  have hk1' : ClkA w1 base Bp B (.slice pu n cu) n := by
    obtain ⟨ys, h1, h2, h3⟩ := unhide HK
    exact ⟨ys, h1, own_below h2 hal1 (Nat.le_refl _), h3⟩
  have hpa1 : PassA w1 Bp B (.slice po m co) m := by
    obtain ⟨ys, h1, h2, h3⟩ := unhide HPA
    exact ⟨ys, h1, own_below h2 hal1 (Nat.le_refl _), h3⟩
  have hz1 := hal1.size
  have hs1 : w.heap.size < w1.heap.size := by
    have := hb1.size
    rw [unhide HZL] at this
    omega
  have hbw : Below base w w1 := hal1.mono (by omega)
  have hkp1 : Kept Bp B w w1 := (Kept.refl _ _ _).below hal1 (by omega)
  have HYA := hide (show ∀ j, (Value.slice pu n cu).ownBlock = some j → j < Bp ∨ B + 6 < j from by obtain ⟨_, _, _, h⟩ := unhide HK; exact h)
  clear hb1 hal1 HSTO HNUM
  cases atm with
  | false =>
    have HJN : Jn w base Bp B v g w.heap.size vs ps sq xs next pos name false w1 :=
      ⟨_, n, hn, by rw [set_self (unhide HU)]; exact hst1, hk1', hbw, hkp1, hbx1⟩
    clear hst1 hk1' hpa1 hbw hbx1 hkp1
    obtain ⟨u1, n1, hn1, hst2, hk2, hb2, hkp2, hbx2⟩ := HJN
    have hl2 := hst2.lt
    have y0 : w1.cell? ⟨w.heap.size, 0, none⟩ = some (.int .i64 pos) := zcell hbx2 0
    have y1 : w1.cell? ⟨w.heap.size, 1, none⟩ = some (.int .u8 0) := zcell hbx2 1
    have y2 : w1.cell? ⟨w.heap.size, 2, none⟩ = some (.string name) := zcell hbx2 2
    have y3 : w1.cell? ⟨w.heap.size, 3, none⟩ = some (.bool false) := zcell hbx2 3
    have HAC := hide (access_any base Bp n1 g u1 pos name false w1 hst2 (by rw [List.getElem?_set_self (by rw [unhide HVL]; exact hgv)]) hk2 hn1 hg (by rw [List.length_set, unhide HVL]; exact hk1) hb hBp hv)
    have HB2 := hide hb2
    have HKP2 := hide hkp2
    clear hst2 hk2 hb2 hbx2 hkp2
    go_wp2_with (first
      | (go_at_call 58; refine (unhide HAC).mono ?_; rintro e w3 ⟨rfl, ⟨u3, hv3, hs3⟩, hb3, hkp3⟩; have c3 := (hs3.write (unhide HS) (unhide HX) (unhide HP)).2.2.2.1; rw [List.set_set] at hs3; have HS3 := hide hs3; have HB3 := hide hb3; have HKP3 := hide hkp3; clear hs3 hb3 hkp3))
    go_ret
    exact ⟨rfl, ⟨u3, hv3, unhide HS3⟩, (unhide HB2).trans (unhide HB3), (unhide HKP2).trans (unhide HKP3)⟩

  | true =>
    have y3 : w1.cell? ⟨w.heap.size, 3, none⟩ = some (.bool true) := zcell hbx1 3
    have m1 := hst1.mod.cells.2.1
    obtain ⟨cg, fg⟩ := hst1.clock (unhide HU)
    have cp := (hst1.write (unhide HS) (unhide HX) (unhide HP)).2.2.2.2
    rw [unhide HVL] at m1
    have HJO := hide (join_any base Bp n m (.slice pu n cu) (.slice po m co) w1.drew (hst1.on (Below.refl _ _).drew) (hk1'.grown (row := none) ⟨rfl, rfl, rfl, Nat.le_refl _, fun _ _ _ => rfl⟩ (fun j e => nomatch e)) (hpa1.grown (row := none) ⟨rfl, rfl, rfl, Nat.le_refl _, fun _ _ _ => rfl⟩ (fun j _ _ e => nomatch e)) hn hm hb hBp)
    have HBX1 := hide hbx1
    have HBW := hide hbw
    have HKP1 := hide hkp1
    clear hst1 hk1' hpa1 hbw hbx1 hkp1
    go_wp2
    go_cut [] from 19 to 36 (fun wx => Jn w base Bp B v g w.heap.size vs ps sq xs next pos name true wx)
    case first =>
      go_region_with (first
        | (go_at_call 49; refine (unhide HJO).mono ?_; rintro e w2 ⟨u2, n2, rfl, hn2, hk2, hst2, hb2, hfr2⟩; obtain ⟨ys2, hy2, ho2, ha2⟩ := id hk2; obtain ⟨p2, c2, rfl⟩ := slice_of ho2; clear hy2 ho2 ha2 ys2; have m1' := hst2.mod.cells.2.1; obtain ⟨cg', fg'⟩ := hst2.clock (unhide HU); rw [unhide HVL] at m1'; have HJN : Hid (Jn w base Bp B v g w.heap.size vs ps sq xs next pos name true (w2.setCell ⟨B + 4, g, none⟩ (.slice p2 n2 c2))) := hide (by
            have hg4 := grown_set w2 (B + 4) g (.slice p2 n2 c2)
            have hs2 : w1.heap.size ≤ w2.heap.size := hb2.size
            refine ⟨_, n2, hn2, hst2.setClock g _, hk2.grown hg4 (fun j e => .inl (by have := Option.some.inj e; omega)), ((unhide HBW).trans ⟨hb2.os, hb2.tape, hb2.output, hb2.size, hb2.block⟩).setCell (by show base ≤ B + 4; omega) _, ((unhide HKP1).trans (fun k h1 h2 => hfr2 k (by show k < w1.heap.size; omega) (fun e => by rcases unhide HYA k e with h3 | h3 <;> omega))).set _ (by omega), ?_⟩
            refine (hg4.block _ (by omega) (by simp; omega)).trans ((hfr2 w.heap.size hs1 (fun e => ?_)).trans (unhide HBX1))
            have := unhide HUBH _ e
            omega); clear hk2 hst2 hb2 hfr2))
      all_goals (go_wp2_with fail; go_meet; exact unhide HJN)
    case rest =>
      have HJN := hcut
      obtain ⟨u1, n1, hn1, hst2, hk2, hb2, hkp2, hbx2⟩ := HJN
      have hl2 := hst2.lt
      have y0 : wc.cell? ⟨w.heap.size, 0, none⟩ = some (.int .i64 pos) := zcell hbx2 0
      have y1 : wc.cell? ⟨w.heap.size, 1, none⟩ = some (.int .u8 0) := zcell hbx2 1
      have y2 : wc.cell? ⟨w.heap.size, 2, none⟩ = some (.string name) := zcell hbx2 2
      have y3 : wc.cell? ⟨w.heap.size, 3, none⟩ = some (.bool true) := zcell hbx2 3
      have HAC := hide (access_any base Bp n1 g u1 pos name true wc hst2 (by rw [List.getElem?_set_self (by rw [unhide HVL]; exact hgv)]) hk2 hn1 hg (by rw [List.length_set, unhide HVL]; exact hk1) hb hBp hv)
      have HB2 := hide hb2
      have HKP2 := hide hkp2
      clear hst2 hk2 hb2 hbx2 hkp2
      go_wp2_with (first
        | (go_at_call 58; refine (unhide HAC).mono ?_; rintro e w3 ⟨rfl, ⟨u3, hv3, hs3⟩, hb3, hkp3⟩; have c3 := (hs3.write (unhide HS) (unhide HX) (unhide HP)).2.2.2.1; rw [List.set_set] at hs3; have HS3 := hide hs3; have HB3 := hide hb3; have HKP3 := hide hkp3; clear hs3 hb3 hkp3))
      go_ret
      exact ⟨rfl, ⟨u3, hv3, unhide HS3⟩, (unhide HB2).trans (unhide HB3), (unhide HKP2).trans (unhide HKP3)⟩

set_option maxHeartbeats 1000000 in
set_option maxRecDepth 100000 in
theorem zzread_any {B v : Nat} {vs ps : List Value} {sq xs : List Int} {next : Int} (base Bp n m g : Nat) (u o : Value) (pos : Int) (name : ByteArray) (atm : Bool) (seq x : Int) (idx : Nat) (w : World) (h : St w B v vs ps sq xs next (.slice none 0 0) 0) (hl : Lens sq xs ps v) (ho : Only sq seq idx) (hx : xs[idx]? = some x) (hp : ps[idx]? = some o)
    (hu : vs[g]? = some u) (hk : ClkA w base Bp B u n) (hpa : PassA w Bp B o m) (hn : n ≤ 1048576) (hm : m ≤ 1048576) (hg : g ≤ 1048576) (hk1 : vs.length ≤ 1048576) (hb : base ≤ B) (hBp : Bp ≤ B) :
    Calls Try.prog 38 #[.pointer (some ⟨B + 3, 0, none⟩), .int .i64 g, .int .i64 v, .int .i64 pos, .string name, .bool atm, .int .i64 seq] w fun e w' => e = .returned (.int .i64 x) ∧ (∃ u' hv', St w' B v (vs.set g u') ps sq xs next hv' 0) ∧ Below base w w' ∧ Kept Bp B w w' := by
  have HR := hide (read_any base Bp n m g u o pos name atm seq x idx w h hl ho hx hp hu hk hpa hn hm hg hk1 hb hBp)
  clear h hl ho hx hp hu hk hpa hn hm hg hk1 hb hBp
  have hta := assert3 x
  go_enter Try.func38, Try.ntmps38
  go_wp2_with fail
  refine (unhide HR).mono ?_
  rintro e w1 ⟨rfl, hs, hb, hkp⟩
  have HS := hide hs
  have HB := hide hb
  have HKP := hide hkp
  clear hs hb hkp
  go_wp2
  go_ret
  exact ⟨rfl, unhide HS, unhide HB, unhide HKP⟩
end Go.Proofs.Qxb6615079a
