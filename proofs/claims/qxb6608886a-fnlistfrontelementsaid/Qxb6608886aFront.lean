/-
  FnListFrontElement: the walk.
-/
import Derived.Test.Qxb6608886aIns
import Derived.Laws.CopyOwn
import Derived.Laws.Cover3
import Derived.Deep.WholeRow
namespace Go.Proofs.Qxb6608886a.front
open Go.RowKit

theorem splice_all {α : Type} (D cs : List α) (h : D.length = cs.length) : splice D 0 cs = cs := by
  simp [splice, ← h]

set_option maxHeartbeats 1000000 in
/-- a nil slice -/
theorem walk_nil (x : ByteArray) (w : World) :
    Calls Try.prog 5 #[.string x, .slice none 0 0] w fun e w' => e = .returned (.bool true) ∧ Below w.heap.size w w' := by
  have hby := hide (bytes_front none 0 [] x w (.inl rfl) (by simp))
  go_enter Try.func5, Try.ntmps5
  go_wp2_with fail
  refine (unhide hby).mono ?_
  rintro e w' ⟨⟨r, rfl, hr⟩, rfl⟩
  clear hby hr
  cases r with
  | false =>
    go_wp2
    go_ret
    exact ⟨rfl, Below.refl _ _⟩
  | true =>
    by_cases hg : x.size ≤ 262144
    case neg =>
      go_wp2
      go_ret
      exact ⟨rfl, Below.refl _ _⟩
    go_wp2
    go_loop [6, 7] (fun t i => t = .int .i64 0 ∧ i = .int .i64 0) (fun _ _ => 0)
    case atStart => exact ⟨rfl, rfl⟩
    case round =>
      obtain ⟨rfl, rfl⟩ := hrel
      go_wp2_with fail
      refine (zzlist_one _ 0 1 x _ (by go_simp)).mono ?_
      rintro e w2 ⟨rfl, rfl⟩
      go_wp2
      go_ret
      exact ⟨rfl, (Below.refl _ _).alloc (Nat.le_refl _) _⟩

/-- the copy: the new row holds the strings -/
theorem copy_run (w : World) (ad : Addr) (c : Nat) (ss : List ByteArray) (D : Array Value) (hD : D.size = ss.length) (hs : SRow w (some ad) ss) :
    Sem.run Try.prog (Builtin.copy_ #[26, 26] 3 #[.slice (some ⟨w.heap.size, 0, none⟩) ss.length ss.length, .slice (some ad) ss.length c]) (w.alloc (.cells D 9)) =
      .ok (.int .i64 (ss.length : Int)) (w.alloc (.cells (ss.map Value.string).toArray 9)) := by
  have h := run_copy_row Try.prog (w.alloc (.cells D 9)) 26 26 3 9 w.heap.size 0 ss.length ss.length ad ss.length c D 9 (ss.map Value.string) Try.underlying26 (by kernel_rfl)
    (by show (w.heap.push _)[w.heap.size]? = _; simp) (by simp) (by
      intro j v hv
      rcases hs with rfl | ⟨b, o, he, hb, hc⟩
      · simp at hv
      · cases he
        rw [List.getElem?_map] at hv
        cases hx : ss[j]? with
        | none => rw [hx] at hv; simp at hv
        | some x =>
          rw [hx] at hv
          simp at hv
          subst hv
          rw [WideShapes.add_plain]
          exact (World.cell?_alloc_lt w _ ⟨b, o + j, none⟩ hb).trans (hc j x hx)) (by simp; omega) (by
      intro v hv
      obtain ⟨x, _, rfl⟩ := List.mem_map.1 hv
      rfl)
  rw [h, World.setRow_alloc_new]
  have e : List.drop (0 + (ss.map Value.string).length) D.toList = [] := by
    apply List.drop_eq_nil_of_le
    simp [hD]
  rw [e]
  simp [goInt]

theorem row3_1 {w : World} {A B C : Array Value} {t1 t2 t3 i : Nat} : (((w.alloc (.cells A t1)).alloc (.cells B t2)).alloc (.cells C t3)).cell? ⟨w.heap.size, i, none⟩ = A[i]? := by
  have e : (((w.alloc (.cells A t1)).alloc (.cells B t2)).alloc (.cells C t3)).heap[w.heap.size]? = some (.cells A t1) := by
    show (((w.heap.push _).push _).push _)[w.heap.size]? = _
    rw [Array.getElem?_push, if_neg (by simp; omega), Array.getElem?_push, if_neg (by simp), Array.getElem?_push, if_pos rfl]
  unfold World.cell?
  rw [e]
  rfl
theorem row3_3 {w : World} {A B C : Array Value} {t1 t2 t3 i : Nat} : (((w.alloc (.cells A t1)).alloc (.cells B t2)).alloc (.cells C t3)).cell? ⟨w.heap.size + 1 + 1, i, none⟩ = C[i]? := by
  have e : (((w.alloc (.cells A t1)).alloc (.cells B t2)).alloc (.cells C t3)).heap[w.heap.size + 1 + 1]? = some (.cells C t3) := by
    show (((w.heap.push _).push _).push _)[w.heap.size + 1 + 1]? = _
    rw [Array.getElem?_push, if_pos (by simp)]
  unfold World.cell?
  rw [e]
  rfl

theorem last_parts {α : Type} (l : List α) (h : l ≠ []) : ∃ r z, l = r ++ [z] :=
  ⟨l.dropLast, l.getLast h, (List.dropLast_concat_getLast h).symm⟩

theorem end_one {Wh x z : ByteArray} (h : Wh.data.toList = x.data.toList ++ andL ++ z.data.toList) :
    (Wh.toList == (x ++ { data := #[32, 97, 110, 100, 32] } ++ z).toList) = true := by
  refine str_eq ?_
  rw [h]
  simp [andL]

theorem end_many {Wh x R : ByteArray} (h : Wh.data.toList = x.data.toList ++ sepL ++ R.data.toList) :
    (Wh.toList == (x ++ { data := #[44, 32] } ++ R).toList) = true := by
  refine str_eq ?_
  rw [h]
  simp [sepL]

theorem filled_map (ss : List ByteArray) : Filled ss ss.length (ss.map Value.string).toArray := by
  intro i _ s hs
  simp [hs]

set_option maxHeartbeats 1000000 in
theorem walk (hJ : JoinSaid) (ad : Addr) (c : Nat) (ss : List ByteArray) (x : ByteArray) (w : World) (hs : SRow w (some ad) ss) (hl : ss.length ≤ 9223372036854775807) :
    Calls Try.prog 5 #[.string x, .slice (some ad) ss.length c] w fun e w' => e = .returned (.bool true) ∧ Below w.heap.size w w' := by
  have hby := hide (bytes_front (some ad) c ss x w hs hl)
  generalize hn : ss.length = n at hl hby ⊢
  have HN : Hid (ss.length = n) := hn
  clear hn
  have HJ := hide hJ
  clear hJ
  go_enter Try.func5, Try.ntmps5
  go_wp2_with fail
  refine (unhide hby).mono ?_
  rintro e w' ⟨⟨r, rfl, hr⟩, rfl⟩
  clear hby
  cases r with
  | false =>
    clear hr
    go_wp2
    go_ret
    exact ⟨rfl, Below.refl _ _⟩
  | true =>
    have HSH := hide (hr rfl)
    clear hr
    by_cases hg : x.size ≤ 262144 ∧ n ≤ 65536
    case neg =>
      go_wp2
      all_goals first
        | (exfalso; omega)
        | (go_ret; exact ⟨rfl, Below.refl _ _⟩)
    obtain ⟨g1, g2⟩ := hg
    have hm1 := make26 n (by omega)
    have z1 := size_madeCells #[.string ⟨#[]⟩] n
    generalize madeCells #[.string ⟨#[]⟩] n = D at *
    have hcp := copy_run w' ad c ss D (by rw [z1, unhide HN]) hs
    rw [unhide HN] at hcp
    have hfE := filled_map ss
    rw [unhide HN] at hfE
    have hEs : (ss.map Value.string).toArray.size = n := by simp [unhide HN]
    generalize (ss.map Value.string).toArray = E at *
    have FE := hide hfE
    have SE := hide hEs
    clear hfE hEs z1
    go_wp2
    all_goals try (exfalso; omega)
    clear hcp hm1 hs
    go_loop [6, 7] (fun t i => ∃ k : Nat, k ≤ n ∧ i = .int .i64 k ∧ t = .int .i64 (16 * k + sz (ss.take k) : Nat) ∧ 16 * k + sz (ss.take k) ≤ 524288) (fun _ i => n - (intOf i).toNat)
    case atStart => exact ⟨0, Nat.zero_le _, rfl, by simp [sz], by simp [sz]⟩
    case round =>
      obtain ⟨k, hk, rfl, rfl, htot⟩ := hrel
      by_cases hlt : k < n
      · obtain ⟨s, hsk⟩ : ∃ s, ss[k]? = some s := ⟨_, List.getElem?_eq_getElem (by rw [unhide HN]; exact hlt)⟩
        have hcell := (unhide FE) k hlt s hsk
        have hss := (unhide HSH).get hsk hlt
        have HT := hide (sz_take_succ hsk)
        clear hsk
        generalize sz (ss.take k) = q at *
        go_wp2
        · go_ret
          exact ⟨rfl, (Below.refl _ _).alloc (Nat.le_refl _) _⟩
        · go_round
          case rel => exact ⟨k + 1, by omega, by go_num, by rw [unhide HT]; go_num, by rw [unhide HT]; omega⟩
          case measure => simp [intOf]; omega
      · obtain rfl : k = n := by omega
        go_wp2_with fail
        refine (zzlist_one _ 0 1 x _ (by go_simp)).mono ?_
        rintro e w2 ⟨rfl, rfl⟩
        by_cases hk0 : k = 0
        · go_wp2
          go_ret
          exact ⟨rfl, ((Below.refl _ _).alloc (Nat.le_refl _) _).alloc (by simp) _⟩
        have hk0' : ((k : Int) == 0) = false := by simp; exact hk0
        have hm1 : ∀ W, Sem.run Try.prog (Instr.makeSlice 26 (.int .i64 ((k : Int) + 1)) (.int .i64 ((k : Int) + 1))) W = .ok (.slice (some ⟨W.heap.size, 0, none⟩) (k + 1) (k + 1)) (W.alloc (.cells (madeCells #[.string ⟨#[]⟩] (k + 1)) 9)) := fun W => by simpa using make26 (k + 1) (by omega) W
        have z1 := size_madeCells #[.string ⟨#[]⟩] (k + 1)
        generalize madeCells #[.string ⟨#[]⟩] (k + 1) = D1 at *
        have Z1 := hide z1
        obtain ⟨v0, hv0⟩ : ∃ v, D1[0]? = some v := ⟨_, Array.getElem?_eq_getElem (by omega)⟩
        clear z1
        go_wp2
        clear hm1
        go_loopw [10, 11] (fun t i wr => ∃ (j : Nat) (C : Array Value), j ≤ k ∧ i = .int .i64 j ∧ t = .int .i64 (sz (ss.take j) : Nat) ∧ C.size = k + 1 ∧ Filled (x :: ss) (j + 1) C ∧ sz (ss.take j) ≤ sz (ss.take k) ∧ wr = ((w'.alloc (.cells E 9)).alloc (.cells #[.string x] 9)).alloc (.cells C 9)) (fun _ i _ => k - (intOf i).toNat)
        case atStart => exact ⟨0, _, Nat.zero_le _, rfl, by simp [sz], by simpa using unhide Z1, (Filled.zero (x :: ss) D1).succ rfl (by rw [unhide Z1]; omega), by simp [sz], rfl⟩
        case round =>
          obtain ⟨j, C, hj, rfl, rfl, s1, f1, hle, rfl⟩ := hrel
          have S1 := hide s1
          have F1 := hide f1
          clear f1
          by_cases hjk : j < k
          · obtain ⟨s, hsk⟩ : ∃ s, ss[j]? = some s := ⟨_, List.getElem?_eq_getElem (by rw [unhide HN]; exact hjk)⟩
            have hcell := (unhide FE) j hjk s hsk
            have hss := (unhide HSH).get hsk hjk
            obtain ⟨v1, hv1⟩ : ∃ v, C[j + 1]? = some v := ⟨_, Array.getElem?_eq_getElem (by omega)⟩
            have HT := hide (sz_take_succ hsk)
            have HSK := hide hsk
            clear hsk s1
            go_wp2
            go_roundw
            case rel => exact ⟨j + 1, _, by omega, by go_num, by rw [unhide HT]; go_num, by simpa using unhide S1, (unhide F1).succ (by simpa using unhide HSK) (by rw [unhide S1]; omega), sz_take_mono ss (by omega), rfl⟩
            case measure => simp [intOf]; omega
          · obtain rfl : j = k := by omega
            clear s1
            go_wp2_with fail
            have hne : ss ≠ [] := by intro h; have := unhide HN; rw [h] at this; simp at this; omega
            obtain ⟨r, z, hrz⟩ := last_parts ss hne
            have hrl : r.length + 1 = j := by rw [← unhide HN, hrz]; simp
            have hszs : sz ss = sz (ss.take j) := by rw [List.take_of_length_le (by rw [unhide HN]; exact Nat.le_refl _)]
            have hszr : sz ss = sz r + z.size := by rw [hrz]; simp [sz]
            have hJl := join_len ((x :: r).map (·.data.toList)) (by simp)
            rw [lens_sz, List.length_map] at hJl
            have hszx : sz (x :: r) = x.size + sz r := by simp [sz]
            simp only [List.length_cons] at hJl
            refine (zzlist_many (unhide HJ) (w'.heap.size + 1 + 1) 0 j (j + 1) (x :: r) z _ (by simp [hrl]) (by omega) (Nat.le_refl _) (by omega) ?_ ?_ (by simp) (by omega) (by omega)).mono ?_
            · intro i t ht
              rw [row3_3, Nat.zero_add]
              have hi := (List.getElem?_eq_some_iff.1 ht).1
              simp at hi
              refine (unhide F1) i (by omega) t ?_
              rw [hrz, ← List.cons_append, List.getElem?_append_left (by simp; omega)]
              exact ht
            · rw [row3_3, Nat.zero_add]
              refine (unhide F1) j (by omega) z ?_
              rw [hrz, ← List.cons_append, List.getElem?_append_right (by simp; omega)]
              simp [hrl]
            rintro e w1 ⟨rfl, hb1⟩
            have hrow : ∀ i, w1.cell? ⟨w'.heap.size, i, none⟩ = E[i]? := fun i => (hb1.cell (p := ⟨w'.heap.size, i, none⟩) (by simp; omega)).trans row3_1
            have hlt1 : w'.heap.size < w1.heap.size := by have := hb1.size; simp at this; omega
            have hbel1 : Below w'.heap.size w' w1 := ((((Below.refl _ w').alloc (Nat.le_refl _) _).alloc (by simp) _).alloc (by simp; omega) _).trans (hb1.mono (by simp; omega))
            have HROW := hide hrow
            clear hrow hb1
            obtain ⟨Wh, hW⟩ : ∃ U : ByteArray, U = ⟨(Lib.join ((x :: r).map (·.data.toList)) sepL).toArray⟩ ++ ⟨andL.toArray⟩ ++ z := ⟨_, rfl⟩
            have WL : Wh.data.toList = Lib.join (x.data.toList :: r.map (·.data.toList)) sepL ++ andL ++ z.data.toList := by rw [hW]; simp
            rw [← hW]
            have HW := hide WL
            clear WL hW hJl hszx
            have zs : z.size ≤ 524288 := by omega
            by_cases hj1 : j = 1
            · have hr0 : r = [] := List.length_eq_zero_iff.1 (by omega)
              have hz0 : ss[0]? = some z := by rw [hrz, hr0]; rfl
              have hz : Calls Try.prog 10 #[.slice (some ⟨w'.heap.size, 0, none⟩) j j] w1 fun e w2 => e = .returned (.string z) ∧ w2 = w1 := by
                rw [hj1]
                exact zzlist_one _ 0 1 z w1 ((unhide HROW 0).trans ((unhide FE) 0 (by omega) z hz0))
              have hc0 : w1.cell? ⟨w'.heap.size, 0, none⟩ = some (.string z) := (unhide HROW 0).trans ((unhide FE) 0 (by omega) z hz0)
              have hj1' : ((j : Int) == 1) = true := by simp [hj1]
              have hend : Wh.data.toList = x.data.toList ++ andL ++ z.data.toList := by
                rw [unhide HW, hr0]
                simp [Lib.join_one]
              have HZ := hide hz
              have HE := hide hend
              clear hz hend hrz hr0 hz0 hrl hszs hszr hj1 hne
              go_wp2_with fail
              refine (unhide HZ).mono ?_
              rintro e w2 ⟨rfl, rfl⟩
              go_wp2
              go_ret
              exact ⟨ret_true (end_one (unhide HE)), hbel1⟩
            · have hrne : r ≠ [] := by intro h; rw [h] at hrl; simp at hrl; omega
              obtain ⟨s0, hs0⟩ : ∃ s0, r[0]? = some s0 := ⟨_, List.getElem?_eq_getElem (by omega)⟩
              have hs0' : ss[0]? = some s0 := by rw [hrz, List.getElem?_append_left (by omega)]; exact hs0
              have hzj : ss[j - 1]? = some z := by rw [hrz, List.getElem?_append_right (by omega), show j - 1 - r.length = 0 from by omega]; rfl
              have hJr := join_len (r.map (·.data.toList)) (by simpa using hrne)
              rw [lens_sz, List.length_map] at hJr
              have hz : Calls Try.prog 10 #[.slice (some ⟨w'.heap.size, 0, none⟩) j j] w1 fun e w2 => e = .returned (.string (⟨(Lib.join (r.map (·.data.toList)) sepL).toArray⟩ ++ ⟨andL.toArray⟩ ++ z)) ∧ Below w1.heap.size w1 w2 := by
                have := zzlist_many (unhide HJ) w'.heap.size 0 (j - 1) j r z w1 (by omega) (by omega) (by omega) (by omega) (fun i t ht => by
                  rw [Nat.zero_add, unhide HROW]
                  have hi := (List.getElem?_eq_some_iff.1 ht).1
                  exact (unhide FE) i (by omega) t (by rw [hrz, List.getElem?_append_left hi]; exact ht)) (by
                  rw [Nat.zero_add, unhide HROW]
                  exact (unhide FE) (j - 1) (by omega) z hzj) hlt1 (by omega) (by omega)
                rw [show j - 1 + 1 = j from by omega] at this
                exact this
              obtain ⟨R, hR⟩ : ∃ U : ByteArray, U = ⟨(Lib.join (r.map (·.data.toList)) sepL).toArray⟩ ++ ⟨andL.toArray⟩ ++ z := ⟨_, rfl⟩
              have RL : R.data.toList = Lib.join (r.map (·.data.toList)) sepL ++ andL ++ z.data.toList := by rw [hR]; simp
              have rs : R.size = 2 * (r.length - 1) + sz r + 5 + z.size := by
                have e1 : R.size = R.data.toList.length := by simp
                rw [e1, RL]
                simp [hJr, andL]
                omega
              rw [← hR] at hz
              have hend : Wh.data.toList = x.data.toList ++ sepL ++ R.data.toList := by
                rw [unhide HW, RL, join_front _ _ (by simpa using hrne)]
                simp
              have hu1 : (R.size : Int) ≤ (sz (ss.take j) : Nat) + 2 * ((j : Int) - 2) + 5 := by omega
              have hu2 : (sz (ss.take j) : Nat) + 2 * ((j : Int) - 2) + 5 ≤ (R.size : Int) := by omega
              obtain ⟨jl, hjl⟩ := join_head (r.map (·.data.toList)) s0.data.toList (by simp [hs0])
              have hc0 : w1.cell? ⟨w'.heap.size, 0, none⟩ = some (.string s0) := (unhide HROW 0).trans ((unhide FE) 0 (by omega) s0 hs0')
              have hcj : w1.cell? ⟨w'.heap.size, j - 1, none⟩ = some (.string z) := (unhide HROW _).trans ((unhide FE) (j - 1) (by omega) z hzj)
              have hj1' : ((j : Int) == 1) = false := by simp; omega
              have hj2 : 2 ≤ j := by omega
              have HZ := hide hz
              have HE := hide hend
              have HRL := hide RL
              have HJL := hide hjl
              clear hz hend hrz hs0 hs0' hzj hrl hszs hszr hne hrne hJr RL rs hjl hR
              go_wp2_with fail
              refine (unhide HZ).mono ?_
              rintro e w2 ⟨rfl, hb2⟩
              have hbel2 : Below w'.heap.size w' w2 := hbel1.trans (hb2.mono hbel1.size)
              have hc0' : w2.cell? ⟨w'.heap.size, 0, none⟩ = some (.string s0) := (hb2.cell (p := ⟨w'.heap.size, 0, none⟩) hlt1).trans hc0
              have hcj' : w2.cell? ⟨w'.heap.size, j - 1, none⟩ = some (.string z) := (hb2.cell (p := ⟨w'.heap.size, j - 1, none⟩) hlt1).trans hcj
              clear hc0 hcj
              go_wp2_with fail
              refine (pre_true R s0 w2 ⟨jl ++ andL ++ z.data.toList, by rw [unhide HRL, unhide HJL]; simp⟩).mono ?_
              rintro e w3 ⟨rfl, rfl⟩
              go_wp2_with fail
              refine (suf_true R _ _ (by omega) ⟨Lib.join (r.map (·.data.toList)) sepL, by rw [unhide HRL]; simp [andL]⟩).mono ?_
              rintro e w4 ⟨rfl, rfl⟩
              go_wp2
              go_ret
              exact ⟨ret_true (end_many (unhide HE)), hbel2⟩
end Go.Proofs.Qxb6608886a.front
