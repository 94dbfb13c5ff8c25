/-
  One law on append: the value written out, and that the row is the old one or a new block.
-/
import Derived.Test.Qxb6603228aMem
import Derived.ArgAppend
namespace Go.Proofs.Qxb6603228a
open Go.RowKit

theorem ownsRow_lower {w : World} {B B' : Nat} {e : TypeId} {size : Nat} {v : Value} {n : Nat} {xs : List Value} (h : w.ownsRow B e size v n xs) (hB : B' ≤ B) : w.ownsRow B' e size v n xs := by
  obtain ⟨h1, h2⟩ := h
  refine ⟨h1, ?_⟩
  rcases h2 with h2 | ⟨g, cap, cur, hv, hg, r⟩
  · exact .inl h2
  · exact .inr ⟨g, cap, cur, hv, by omega, r⟩

theorem grownBy_any {w w' : World} (h : w.grownBy w' none) (row : Option Nat) : w.grownBy w' row := ⟨h.os, h.tape, h.output, h.size, fun k hk _ => h.block k hk (by simp)⟩

/-- The one element that is appended lies in a block of its own. -/
theorem news_one (w : World) (b : Nat) (hb : b = w.heap.size) (v : Value) (t : TypeId) : ∀ (j : Nat) (u : Value), [v][j]? = some u → (w.alloc (.cells #[v] t)).cell? ((⟨b, 0, none⟩ : Addr).add j) = some u := by
  subst hb
  intro j u hj
  match j, hj with
  | 0, hj => simp at hj; subst hj; simp [Addr.add]

/-- APPEND, the value written out; the row is the one that it was, or a new block. -/
theorem wpList_append_out {P : Program} (w : World) {ops : Array Oper} {rest : List Oper} {o : Oper} {a : Act} {Q : Exit → Act → World → Prop} (hgd : o.guard = none) (s x : Operand) (t : TypeId)
    (ho : o.op = .call { callee := .builtin .append, args := #[s, x], argTypes := #[t, t] })
    (base : Nat) (e : TypeId) (i : TypeInfo) (z : Value) (size bytes : Nat) (ht : P.underlying t = some (.slice e)) (hi : P.info? e = some i) (hz : i.zero = some z)
    (hsize : i.size = size) (hby : i.bytes = bytes) (hzs : z.cells.size = size) (hsz : 0 < size)
    (v : Value) (n : Nat) (xs : List Value) (hs : a.eval s = v) (hown : w.ownsRow base e size v n xs)
    (ad : Addr) (m c : Nat) (news : List Value) (hx : a.eval x = .slice (some ad) m c) (hl : news.length = m * size) (hnews : ∀ j u, news[j]? = some u → w.cell? (ad.add j) = some u) (h1 : ∀ u ∈ news, u.oneCell' = true)
    (hm : 0 < m) (h63 : n + m ≤ maxLen) (hbytes : (n + m) * bytes ≤ 140737488355328) (hbase : base ≤ w.heap.size)
    (h : ∀ g cap w', w'.ownsRow base e size (.slice (some ⟨g, 0, none⟩) (n + m) cap) (n + m) (xs ++ news) → w.grownBy w' v.ownBlock → (v.ownBlock = some g ∨ w.heap.size ≤ g) → wpList P ops Q rest (a.put o.dst (.slice (some ⟨g, 0, none⟩) (n + m) cap)) w') : wpList P ops Q (o :: rest) a w := by
  have shape : ∀ {w' : World} {v' : Value}, w'.ownsRow w.heap.size e size v' (n + m) (xs ++ news) → ∃ g cap, v' = .slice (some ⟨g, 0, none⟩) (n + m) cap ∧ w.heap.size ≤ g := by
    intro w' v' hr
    rcases hr.2 with ⟨_, h0⟩ | ⟨g, cap, cur, hv, hg, _⟩
    · omega
    · exact ⟨g, cap, hv, hg⟩
  rcases hown.2 with ⟨rfl, h0⟩ | ⟨g, cap, cur, rfl, hbg, hg, hnc, hcm, hcs, htake⟩
  · subst h0
    refine wpList_append_grows w hgd s x t ho e i z size bytes ht hi hz hsize hby hzs hsz none 0 0 xs hs (fun _ => ⟨rfl, rfl⟩) hown.1 (fun b hb => by cases hb) ad m c news hx hl hnews h1 (by omega) h63 hbytes ?_
    intro v' w' hr hgr
    obtain ⟨g, cap, rfl, hge⟩ := shape hr
    exact h g cap w' (ownsRow_lower hr hbase) (grownBy_any hgr _) (.inr hge)
  · by_cases hroom : n + m ≤ cap
    · refine wpList_append_fits w hgd s x t ho base e i size ht hi hsize g n cap xs hs hown ad m c news hx hl hnews h1 hroom ?_
      intro w' hr hgr
      exact h g cap w' hr hgr (.inl rfl)
    · refine wpList_append_grows w hgd s x t ho e i z size bytes ht hi hz hsize hby hzs hsz (some ⟨g, 0, none⟩) n cap xs hs (fun hh => by cases hh) hown.1 (fun b hb j u hu => by cases hb; exact hown.cells (g := g) rfl j u hu) ad m c news hx hl hnews h1 (by omega) h63 hbytes ?_
      intro v' w' hr hgr
      obtain ⟨g', cap', rfl, hge⟩ := shape hr
      exact h g' cap' w' (ownsRow_lower hr hbase) (grownBy_any hgr _) (.inr hge)
end Go.Proofs.Qxb6603228a
