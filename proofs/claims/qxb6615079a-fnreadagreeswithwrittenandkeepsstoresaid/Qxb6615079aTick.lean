/-
  at, tick.
-/
import Derived.Test.Qxb6615079aRead2
import Derived.Deep.AppendLies
namespace Go.Proofs.Qxb6615079a
open Go.RowKit

theorem append_shape {P : Program} (w : World) {ops : Array Oper} {rest : List Oper} {o : Oper} {a : Act} {Q : Exit → Act → World → Prop} (hgd : o.guard = none)
    (s x : Operand) (t : TypeId) (ho : o.op = Op.call { callee := Callee.builtin Builtin.append, args := #[s, x], argTypes := #[t, t] }) (base : Nat) (e : TypeId) (i : TypeInfo)
    (z : Value) (size bytes : Nat) (ht : P.underlying t = some (TypeDesc.slice e)) (hi : P.info? e = some i) (hz : i.zero = some z) (hsize : i.size = size) (hby : i.bytes = bytes)
    (hzs : z.cells.size = size) (hsz : 0 < size) (v : Value) (n : Nat) (xs : List Value) (hs : a.eval s = v) (hown : w.ownsRow base e size v n xs) (ad : Addr) (m c : Nat) (news : List Value)
    (hx : a.eval x = Value.slice (some ad) m c) (hl : news.length = m * size) (hnews : ∀ (j : Nat) (u : Value), news[j]? = some u → w.cell? (ad.add j) = some u)
    (h1 : ∀ (u : Value), u ∈ news → u.oneCell' = true) (h63 : n + m ≤ maxLen) (hbytes : (n + m) * bytes ≤ 140737488355328) (hbase : base ≤ w.heap.size) (hm : 0 < m)
    (h : ∀ (g cap : Nat) (w' : World), base ≤ g → n + m ≤ cap → w'.ownsRow base e size (.slice (some ⟨g, 0, none⟩) (n + m) cap) (n + m) (xs ++ news) → w.grownBy w' v.ownBlock → (v.ownBlock = some g ∨ g = w.heap.size) → wpList P ops Q rest (a.put o.dst (.slice (some ⟨g, 0, none⟩) (n + m) cap)) w') :
    wpList P ops Q (o :: rest) a w :=
  wpList_append_lies w hgd s x t ho base e i z size bytes ht hi hz hsize hby hzs hsz v n xs hs hown ad m c news hx hl hnews h1 hm h63 hbytes hbase _ rfl fun g cap w' h2 h3 h4 _ => by
    rcases h2.2 with ⟨e0, _⟩ | ⟨g', cap', cur, e0, hb, _, hc, _⟩
    · cases e0
    · injection e0 with e1 _ e3
      injection e1 with e1
      injection e1 with e1
      subst e1; subst e3
      exact h g cap w' hb hc h2 h3 h4

/-- the call returned a uint32 -/
def RetU (e : Ending) : Prop := ∃ t : Int, e = .returned (.int .u32 t)
theorem RetU.mk (t : Int) : RetU (.returned (.int .u32 t)) := ⟨t, rfl⟩

/-- A clock of the call's own, apart from the passes (blocks Bp .. B) and from the model's blocks (B .. B + 6). -/
def ClkA (w : World) (base Bp B : Nat) (u : Value) (n : Nat) : Prop := ∃ ys : List Int, ys.length = n ∧ w.ownsRow base 38 1 u n (ys.map (Value.int .u32)) ∧ ∀ j, u.ownBlock = some j → j < Bp ∨ B + 6 < j

set_option maxHeartbeats 1000000 in
theorem at_any (base n : Nat) (u : Value) (ys : List Int) (g : Nat) (w : World) (hy : ys.length = n) (h : w.ownsRow base 38 1 u n (ys.map (Value.int .u32))) (_hn : n ≤ 4194304) (hg : g ≤ 1048576) :
    Calls Try.prog 62 #[u, .int .i64 g] w fun e w' => RetU e ∧ w' = w := by
  obtain ⟨p, c, rfl⟩ := slice_of h
  by_cases hlt : g < n
  · rcases id h.2 with ⟨_, h0⟩ | ⟨b, cap, cur, e0, _⟩
    · omega
    · injection e0 with e1 _ e3
      subst e1; subst e3
      obtain ⟨y, hyg⟩ : ∃ y, ys[g]? = some y := ⟨_, List.getElem?_eq_getElem (by omega)⟩
      have hc := (own_cell h (i := g) (u := .int .u32 y) (by simp [hyg])).1
      clear h
      go_enter Try.func62, Try.ntmps62
      go_wp2
      go_ret
      exact ⟨RetU.mk _, rfl⟩
  · clear h
    go_enter Try.func62, Try.ntmps62
    go_wp2
    go_ret
    exact ⟨RetU.mk _, rfl⟩
end Go.Proofs.Qxb6615079a
