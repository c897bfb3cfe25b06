/-
  FnListInsertBeforeLast: the walk.
-/
import Derived.Test.Qxb6608886aList
import Derived.Test.Qxb6608886aFix
import Derived.Laws.MakeOwn
namespace Go.Proofs.Qxb6608886a
open Go.RowKit

def sz (l : List ByteArray) : Nat := (l.map ByteArray.size).sum

theorem sz_take_succ {ss : List ByteArray} {k : Nat} {s : ByteArray} (h : ss[k]? = some s) : sz (ss.take (k + 1)) = sz (ss.take k) + s.size := by
  rw [List.take_add_one, h]
  simp [sz]

/-- the first j strings lie in C -/
def Filled (ss : List ByteArray) (j : Nat) (C : Array Value) : Prop := ∀ i, i < j → ∀ s, ss[i]? = some s → C[i]? = some (.string s)
theorem Filled.zero (ss : List ByteArray) (C : Array Value) : Filled ss 0 C := fun _ h => absurd h (Nat.not_lt_zero _)
theorem Filled.succ {ss : List ByteArray} {j : Nat} {C : Array Value} (h : Filled ss j C) {s : ByteArray} (hs : ss[j]? = some s) (hj : j < C.size) : Filled ss (j + 1) (C.setIfInBounds j (.string s)) := by
  intro i hi t ht
  by_cases e : i = j
  · subst e
    rw [hs] at ht
    cases ht
    simp [hj]
  · rw [Array.getElem?_setIfInBounds_ne (by omega)]
    exact h i (by omega) t ht
theorem Filled.set {ss : List ByteArray} {j m : Nat} {C : Array Value} (h : Filled ss j C) (hm : j ≤ m) (v : Value) : Filled ss j (C.setIfInBounds m v) := by
  intro i hi t ht
  rw [Array.getElem?_setIfInBounds_ne (by omega)]
  exact h i hi t ht

theorem make26 (k : Nat) (hk : k ≤ 100000) (W : World) : Sem.run Try.prog (Instr.makeSlice 26 (.int .i64 (k : Int)) (.int .i64 (k : Int))) W =
    .ok (.slice (some ⟨W.heap.size, 0, none⟩) k k) (W.alloc (.cells (madeCells #[.string ⟨#[]⟩] k) 9)) := by
  obtain ⟨i0, hi, hz0, hz1, hz2⟩ := info_parts (show (Try.prog.info? 9).map (fun i => (i.zero, i.size, i.bytes)) = some (some (.string ⟨#[]⟩), 1, 16) by kernel_rfl)
  have h := run_make W 26 9 i0 (.string ⟨#[]⟩) Try.underlying26 hi hz0 .i64 .i64 k k (by omega) (by omega) (by rw [hz2]; omega) (by omega)
  rw [h, hz1]
  simp [Value.cells]

theorem Short.get {ss : List ByteArray} {n k : Nat} (h : Short ss n) {s : ByteArray} (hs : ss[k]? = some s) (hk : k < n) : s.size ≤ 1048576 := h k hk s hs

theorem sz_take_mono (ss : List ByteArray) {j k : Nat} (h : j ≤ k) : sz (ss.take j) ≤ sz (ss.take k) := by
  have e : ss.take j = (ss.take k).take j := by rw [List.take_take, Nat.min_eq_left h]
  have key : ∀ (l : List ByteArray) (j : Nat), sz (l.take j) ≤ sz l := by
    intro l
    induction l with
    | nil => intro j; simp [sz]
    | cons x t ih =>
      intro j
      cases j with
      | zero => simp [sz]
      | succ j =>
        have := ih j
        simp only [sz, List.take_succ_cons, List.map_cons, List.sum_cons] at this ⊢
        omega
  rw [e]
  exact key _ _

theorem lens_sz (ss : List ByteArray) : Lib.lens (ss.map (·.data.toList)) = sz ss := by
  unfold Lib.lens sz
  rw [List.map_map]
  rfl

/-- the two rows that the law has made -/
theorem row1 {w : World} {A B : Array Value} {t1 t2 i : Nat} : ((w.alloc (.cells A t1)).alloc (.cells B t2)).cell? ⟨w.heap.size, i, none⟩ = A[i]? := by
  have e : ((w.alloc (.cells A t1)).alloc (.cells B t2)).heap[w.heap.size]? = some (.cells A t1) := by
    show ((w.heap.push _).push _)[w.heap.size]? = _
    rw [Array.getElem?_push, if_neg (by simp), Array.getElem?_push, if_pos rfl]
  unfold World.cell?
  rw [e]
  rfl
theorem row2 {w : World} {A B : Array Value} {t1 t2 i : Nat} : ((w.alloc (.cells A t1)).alloc (.cells B t2)).cell? ⟨w.heap.size + 1, i, none⟩ = B[i]? := by
  have e : ((w.alloc (.cells A t1)).alloc (.cells B t2)).heap[w.heap.size + 1]? = some (.cells B t2) := by
    show ((w.heap.push _).push _)[w.heap.size + 1]? = _
    rw [Array.getElem?_push, if_pos (by simp)]
  unfold World.cell?
  rw [e]
  rfl

theorem ret_true {b : Bool} (h : b = true) : Ending.returned (.bool b) = .returned (.bool true) := by rw [h]

theorem ins_end {U V x y : ByteArray} {J : List UInt8} (hU : U.data.toList = J ++ andL ++ y.data.toList) (hV : V.data.toList = J ++ sepL ++ x.data.toList ++ andL ++ y.data.toList) :
    (V.toList == (U.extract 0 (U.size - (5 + y.size)) ++ { data := #[44, 32] } ++ x ++ ({ data := #[32, 97, 110, 100, 32] } ++ y)).toList) = true := by
  have e1 : U.size = J.length + 5 + y.size := by
    have e : U.data.toList.length = (J ++ andL ++ y.data.toList).length := by rw [hU]
    simp [andL] at e
    omega
  have e2 : (U.extract 0 (U.size - (5 + y.size))).data.toList = J := by
    simp only [ByteArray.data_extract, Array.toList_extract, List.extract_eq_take_drop, List.drop_zero, Nat.sub_zero]
    rw [hU, show U.size - (5 + y.size) = J.length from by omega, List.append_assoc, List.take_left]
  refine str_eq ?_
  rw [hV]
  simp only [ByteArray.data_append, Array.toList_append, e2]
  simp [sepL, andL]

namespace ins
set_option maxHeartbeats 1000000 in
theorem walk (hJ : JoinSaid) (a : Option Addr) (c : Nat) (ss : List ByteArray) (x y : ByteArray) (w : World) (hs : SRow w a ss) (hl : ss.length ≤ 9223372036854775807) :
    Calls Try.prog 4 #[.slice a ss.length c, .string x, .string y] w fun e w' => e = .returned (.bool true) ∧ Below w.heap.size w w' := by
  have hby := hide (bytes_ins a c ss x y w hs hl)
  generalize hn : ss.length = n at hl hby ⊢
  have HN : Hid (ss.length = n) := hn
  clear hn
  have HJ := hide hJ
  clear hJ
  go_enter Try.func4, Try.ntmps4
  go_wp2_with fail
  refine (unhide hby).mono ?_
  rintro e w' ⟨⟨r, rfl, hr⟩, rfl⟩
  clear hby
  cases r with
  | false =>
    clear hr
    go_wp2
    go_ret
    exact ⟨rfl, Below.refl _ _⟩
  | true =>
    have HSH := hide (hr rfl)
    clear hr
    by_cases hg : n ≤ 65536 ∧ x.size ≤ 262144 ∧ y.size ≤ 262144
    case neg =>
      go_wp2
      all_goals first
        | (exfalso; omega)
        | (go_ret; exact ⟨rfl, Below.refl _ _⟩)
    obtain ⟨g1, g2, g3⟩ := hg
    go_wp2
    all_goals try (exfalso; omega)
    go_loop [7, 8] (fun t i => ∃ k : Nat, k ≤ n ∧ i = .int .i64 k ∧ t = .int .i64 (16 * k + sz (ss.take k) : Nat) ∧ 16 * k + sz (ss.take k) ≤ 524288) (fun _ i => n - (intOf i).toNat)
    case atStart => exact ⟨0, Nat.zero_le _, rfl, by simp [sz], by simp [sz]⟩
    case round =>
      obtain ⟨k, hk, rfl, rfl, htot⟩ := hrel
      by_cases hlt : k < n
      · obtain ⟨b, o, rfl, hb, s, hsk, hcell⟩ := hs.at (i := k) (by rw [HN.out]; exact hlt)
        have hss := (unhide HSH).get hsk hlt
        have HT := hide (sz_take_succ hsk)
        clear hsk
        generalize sz (ss.take k) = q at *
        go_wp2
        · go_ret
          exact ⟨rfl, Below.refl _ _⟩
        · go_round
          case rel => exact ⟨k + 1, by omega, by go_num, by rw [unhide HT]; go_num, by rw [unhide HT]; omega⟩
          case measure => simp [intOf]; omega
      · obtain rfl : k = n := by omega
        by_cases hk1 : k < 1
        · go_wp2
          go_ret
          exact ⟨rfl, Below.refl _ _⟩
        have hm1 : ∀ W, Sem.run Try.prog (Instr.makeSlice 26 (.int .i64 ((k : Int) + 1)) (.int .i64 ((k : Int) + 1))) W = .ok (.slice (some ⟨W.heap.size, 0, none⟩) (k + 1) (k + 1)) (W.alloc (.cells (madeCells #[.string ⟨#[]⟩] (k + 1)) 9)) := fun W => by simpa using make26 (k + 1) (by omega) W
        have hm2 : ∀ W, Sem.run Try.prog (Instr.makeSlice 26 (.int .i64 ((k : Int) + 2)) (.int .i64 ((k : Int) + 2))) W = .ok (.slice (some ⟨W.heap.size, 0, none⟩) (k + 2) (k + 2)) (W.alloc (.cells (madeCells #[.string ⟨#[]⟩] (k + 2)) 9)) := fun W => by simpa using make26 (k + 2) (by omega) W
        have z1 := size_madeCells #[.string ⟨#[]⟩] (k + 1)
        have z2 := size_madeCells #[.string ⟨#[]⟩] (k + 2)
        generalize madeCells #[.string ⟨#[]⟩] (k + 1) = D1 at *
        generalize madeCells #[.string ⟨#[]⟩] (k + 2) = D2 at *
        have Z1 := hide z1
        have Z2 := hide z2
        clear z1 z2
        go_wp2
        clear hm1 hm2
        go_loopw [11, 12] (fun t i wr => ∃ (j : Nat) (C1 C2 : Array Value), j ≤ k ∧ i = .int .i64 j ∧ t = .int .i64 (sz (ss.take j) : Nat) ∧ C1.size = k + 1 ∧ C2.size = k + 2 ∧ Filled ss j C1 ∧ Filled ss j C2 ∧ sz (ss.take j) ≤ sz (ss.take k) ∧ wr = (w'.alloc (.cells C1 9)).alloc (.cells C2 9)) (fun _ i _ => k - (intOf i).toNat)
        case atStart => exact ⟨0, _, _, Nat.zero_le _, rfl, by simp [sz], unhide Z1, unhide Z2, Filled.zero _ _, Filled.zero _ _, by simp [sz], rfl⟩
        case round =>
          obtain ⟨j, C1, C2, hj, rfl, rfl, s1, s2, f1, f2, hle, rfl⟩ := hrel
          have S1 := hide s1
          have S2 := hide s2
          have F1 := hide f1
          have F2 := hide f2
          clear f1 f2
          by_cases hjk : j < k
          · obtain ⟨b, o, rfl, hb, s, hsk, hcell⟩ := hs.at (i := j) (by rw [HN.out]; exact hjk)
            have hss := (unhide HSH).get hsk hjk
            obtain ⟨v1, hv1⟩ : ∃ v, C1[j]? = some v := ⟨_, Array.getElem?_eq_getElem (by omega)⟩
            obtain ⟨v2, hv2⟩ : ∃ v, C2[j]? = some v := ⟨_, Array.getElem?_eq_getElem (by omega)⟩
            have HT := hide (sz_take_succ hsk)
            have HSK := hide hsk
            clear hsk s1 s2
            go_wp2
            go_roundw
            case rel => exact ⟨j + 1, _, _, by omega, by go_num, by rw [unhide HT]; go_num, by simpa using unhide S1, by simpa using unhide S2, (unhide F1).succ (unhide HSK) (by rw [unhide S1]; omega), (unhide F2).succ (unhide HSK) (by rw [unhide S2]; omega), sz_take_mono ss (by omega), rfl⟩
            case measure => simp [intOf]; omega
          · obtain rfl : j = k := by omega
            obtain ⟨v1, hv1⟩ : ∃ v, C1[j]? = some v := ⟨_, Array.getElem?_eq_getElem (by omega)⟩
            obtain ⟨v2, hv2⟩ : ∃ v, C2[j]? = some v := ⟨_, Array.getElem?_eq_getElem (by omega)⟩
            obtain ⟨v3, hv3⟩ : ∃ v, C2[j + 1]? = some v := ⟨_, Array.getElem?_eq_getElem (by omega)⟩
            clear s1 s2
            go_wp2_with fail
            have hne : ss ≠ [] := by intro h; have := unhide HN; rw [h] at this; simp at this; omega
            have hszs : sz ss = sz (ss.take j) := by rw [List.take_of_length_le (by rw [unhide HN]; exact Nat.le_refl _)]
            have hJl := join_len (ss.map (·.data.toList)) (by simpa using hne)
            rw [lens_sz, List.length_map, unhide HN] at hJl
            have hJl2 := join_len ((ss ++ [x]).map (·.data.toList)) (by simp)
            rw [lens_sz, List.length_map, List.length_append, unhide HN] at hJl2
            have hszx : sz (ss ++ [x]) = sz ss + x.size := by simp [sz]
            simp only [List.length_cons, List.length_nil] at hJl2
            refine (zzlist_many (unhide HJ) w'.heap.size 0 j (j + 1) ss y _ (unhide HN) (by omega) (Nat.le_refl _) (by omega) ?_ ?_ (by simp; omega) (by omega) (by omega)).mono ?_
            · intro i t ht
              rw [row1, Nat.zero_add]
              exact (unhide F1).set (Nat.le_refl _) _ i (by have := (List.getElem?_eq_some_iff.1 ht).1; rw [unhide HN] at this; exact this) t ht
            · rw [row1, Nat.zero_add]
              simp [unhide S1]
            rintro e w1 ⟨rfl, hb1⟩
            have hz : Calls Try.prog 10 #[.slice (some ⟨w'.heap.size + 1, 0, none⟩) (j + 2) (j + 2)] w1 fun e w2 => e = .returned (.string (⟨(Lib.join ((ss ++ [x]).map (·.data.toList)) sepL).toArray⟩ ++ ⟨andL.toArray⟩ ++ y)) ∧ Below w1.heap.size w1 w2 := by
              have hrow : ∀ i, w1.cell? ⟨w'.heap.size + 1, i, none⟩ = ((C2.setIfInBounds j (.string x)).setIfInBounds (j + 1) (.string y))[i]? := fun i => (hb1.cell (p := ⟨w'.heap.size + 1, i, none⟩) (by simp)).trans row2
              have hlt1 : w'.heap.size + 1 < w1.heap.size := by have := hb1.size; simp at this; omega
              refine zzlist_many (unhide HJ) (w'.heap.size + 1) 0 (j + 1) (j + 2) (ss ++ [x]) y w1 (by simp [unhide HN]) (by omega) (by omega) (by omega) ?_ ?_ hlt1 (by omega) (by omega)
              · intro i t ht
                rw [Nat.zero_add, hrow]
                have hi := (List.getElem?_eq_some_iff.1 ht).1
                simp [unhide HN] at hi
                rw [Array.getElem?_setIfInBounds_ne (by omega)]
                by_cases e : i = j
                · subst e
                  rw [List.getElem?_append_right (by rw [unhide HN]; exact Nat.le_refl _), unhide HN] at ht
                  simp at ht
                  subst ht
                  simp [unhide S2]
                · rw [List.getElem?_append_left (by rw [unhide HN]; omega)] at ht
                  rw [Array.getElem?_setIfInBounds_ne (by omega)]
                  exact (unhide F2) i (by omega) t ht
              · rw [Nat.zero_add, hrow]
                simp [unhide S2]
            obtain ⟨b, o, rfl, hb, s0, hs0, hcell0⟩ := hs.at (i := 0) (by rw [unhide HN]; omega)
            have hbel1 : Below w'.heap.size w' w1 := (((Below.refl _ w').alloc (Nat.le_refl _) _).alloc (by simp) _).trans (hb1.mono (by simp; omega))
            -- the two texts
            obtain ⟨U, hU⟩ : ∃ U : ByteArray, U = ⟨(Lib.join (ss.map (·.data.toList)) sepL).toArray⟩ ++ ⟨andL.toArray⟩ ++ y := ⟨_, rfl⟩
            obtain ⟨V, hV⟩ : ∃ V : ByteArray, V = ⟨(Lib.join ((ss ++ [x]).map (·.data.toList)) sepL).toArray⟩ ++ ⟨andL.toArray⟩ ++ y := ⟨_, rfl⟩
            have UL : U.data.toList = Lib.join (ss.map (·.data.toList)) sepL ++ andL ++ y.data.toList := by rw [hU]; simp
            have VL : V.data.toList = Lib.join (ss.map (·.data.toList)) sepL ++ sepL ++ x.data.toList ++ andL ++ y.data.toList := by
              rw [hV]
              simp only [List.map_append, List.map_cons, List.map_nil]
              rw [join_snoc _ _ (by simpa using hne)]
              simp
            have us : U.size = 2 * (j - 1) + sz ss + 5 + y.size := by
              have e1 : U.size = U.data.toList.length := by simp
              rw [e1, UL]
              simp [hJl, andL]
              omega
            have hu1 : (U.size : Int) ≤ (sz (ss.take j) : Nat) + (y.size : Int) + 2 * ((j : Int) - 1) + 5 := by omega
            have hu2 : (sz (ss.take j) : Nat) + (y.size : Int) + 2 * ((j : Int) - 1) + 5 ≤ (U.size : Int) := by omega
            rw [← hU]
            rw [← hV] at hz
            have HZ := hide hz
            have HUL := hide UL
            have HVL := hide VL
            have HNE := hide hne
            have HS0 := hide hs0
            obtain ⟨jl, hjl⟩ := join_head (ss.map (·.data.toList)) s0.data.toList (by simp [hs0])
            have HJL := hide hjl
            clear hjl hz UL VL hU hV us hne hs0 hszs hJl hJl2 hszx hv1 hv2 hv3
            go_wp2_with fail
            refine (unhide HZ).mono ?_
            rintro e w2 ⟨rfl, hb2⟩
            have hbel2 : Below w'.heap.size w' w2 := hbel1.trans (hb2.mono hbel1.size)
            have hc2 : w2.cell? ⟨b, o, none⟩ = some (.string s0) := (hbel2.cell (p := ⟨b, o, none⟩) hb).trans hcell0
            clear hcell0 hb1
            go_wp2_with fail
            refine (pre_true U s0 w2 ⟨jl ++ andL ++ y.data.toList, by rw [unhide HUL, unhide HJL]; simp⟩).mono ?_
            rintro e w3 ⟨rfl, rfl⟩
            go_wp2_with fail
            refine (suf_true U _ _ (by omega) ⟨Lib.join (ss.map (·.data.toList)) sepL, by rw [unhide HUL]; simp [andL]⟩).mono ?_
            rintro e w4 ⟨rfl, rfl⟩
            go_wp2
            go_ret
            exact ⟨ret_true (ins_end (unhide HUL) (unhide HVL)), hbel2⟩
end ins
end Go.Proofs.Qxb6608886a
