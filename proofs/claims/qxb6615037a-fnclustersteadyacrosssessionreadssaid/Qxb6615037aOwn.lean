/-
  append onto a slice of the call's own, at least one element: the value's shape is written out.
-/
import Derived.WalkKit
namespace Go.Proofs.Qxb6615037a
open Go.RowKit

theorem append_shape {P : Program} (w : World) {ops : Array Oper} {rest : List Oper} {o : Oper} {a : Act} {Q : Exit → Act → World → Prop} (hgd : o.guard = none)
    (s x : Operand) (t : TypeId) (ho : o.op = Op.call { callee := Callee.builtin Builtin.append, args := #[s, x], argTypes := #[t, t] }) (base : Nat) (e : TypeId) (i : TypeInfo)
    (z : Value) (size bytes : Nat) (ht : P.underlying t = some (TypeDesc.slice e)) (hi : P.info? e = some i) (hz : i.zero = some z) (hsize : i.size = size) (hby : i.bytes = bytes)
    (hzs : z.cells.size = size) (hsz : 0 < size) (v : Value) (n : Nat) (xs : List Value) (hs : a.eval s = v) (hown : w.ownsRow base e size v n xs) (ad : Addr) (m c : Nat) (news : List Value)
    (hx : a.eval x = Value.slice (some ad) m c) (hl : news.length = m * size) (hnews : ∀ (j : Nat) (u : Value), news[j]? = some u → w.cell? (ad.add j) = some u)
    (h1 : ∀ (u : Value), u ∈ news → u.oneCell' = true) (h63 : n + m ≤ maxLen) (hbytes : (n + m) * bytes ≤ 140737488355328) (hbase : base ≤ w.heap.size) (hm : 0 < m)
    (h : ∀ (g cap : Nat) (w' : World), base ≤ g → n + m ≤ cap → w'.ownsRow base e size (.slice (some ⟨g, 0, none⟩) (n + m) cap) (n + m) (xs ++ news) → w.grownBy w' v.ownBlock → wpList P ops Q rest (a.put o.dst (.slice (some ⟨g, 0, none⟩) (n + m) cap)) w') :
    wpList P ops Q (o :: rest) a w := by
  refine wpList_append_own w hgd s x t ho base e i z size bytes ht hi hz hsize hby hzs hsz v n xs hs hown ad m c news hx hl hnews h1 h63 hbytes hbase ?_
  intro v' w' hown' hg _
  rcases hown'.2 with ⟨_, h0⟩ | ⟨g, cap, cur, rfl, hb, _, hc, _⟩
  · omega
  · exact h g cap w' hb hc hown' hg

theorem Below.of_grown {B : Nat} {a w w' : World} {v : Value} {e size n : Nat} {xs : List Value} (hb : Below B a w) (ho : w.ownsRow B e size v n xs) (hg : w.grownBy w' v.ownBlock) (hB : B ≤ w.heap.size) : Below B a w' := by
  refine hb.grown hg hB ?_
  intro k hk
  rcases ho.2 with ⟨rfl, _⟩ | ⟨g, cap, cur, rfl, hbg, _⟩
  · cases hk
  · simp [Value.ownBlock] at hk
    omega

end Go.Proofs.Qxb6615037a
