/-
  reachAll: what lies in memory while she searches.
-/
import Derived.Test.Qxb6603228aAppend
import Derived.Test.Qxb6603228aSearch
import Derived.Test.Qxb6603228aGuards
namespace Go.Proofs.Qxb6603228a
open Go.RowKit Tj

/-- The graph that the rows give: the nodes that each node's edges lead to. -/
def graph (Z : List (List Int)) (u : Nat) : List Nat := (Z.getD u []).map Int.toNat

theorem graph_len (Z : List (List Int)) (u : Nat) : (graph Z u).length = (Z.getD u []).length := by simp [graph]

theorem graph_at {Z : List (List Int)} (h : InRange Z) {u j : Nat} (hu : u < Z.length) (hj : j < (Z.getD u []).length) : ∃ v, (graph Z u)[j]? = some v ∧ (Z.getD u []).getD j 0 = (v : Int) ∧ v < Z.length := by
  obtain ⟨h0, h1⟩ := h u hu j hj
  refine ⟨((Z.getD u []).getD j 0).toNat, ?_, by omega, by omega⟩
  rw [graph, List.getElem?_map, List.getD_eq_getElem?_getD (l := Z.getD u []), List.getElem?_eq_getElem hj]
  rfl

theorem graph_lt {Z : List (List Int)} (h : InRange Z) {u v : Nat} (hu : u < Z.length) (hv : v ∈ graph Z u) : v < Z.length := by
  obtain ⟨j, hj, e⟩ := List.mem_iff_getElem.1 hv
  rw [graph_len] at hj
  obtain ⟨v', h1, _, h3⟩ := graph_at h hu hj
  rw [List.getElem?_eq_getElem (by rw [graph_len]; exact hj), e] at h1
  cases h1
  exact h3

def enc (x : Nat) : Value := .int .i64 (x : Int)

/-- A slice cut to its first k elements. -/
theorem ownsRow_cut {w : World} {B : Nat} {e : TypeId} {size g n cap k : Nat} {xs : List Value} (h : w.ownsRow B e size (.slice (some ⟨g, 0, none⟩) n cap) n xs) (hk : k ≤ n) : w.ownsRow B e size (.slice (some ⟨g, 0, none⟩) k cap) k (xs.take (k * size)) := by
  obtain ⟨h1, h2⟩ := h
  have hle : k * size ≤ n * size := Nat.mul_le_mul_right _ hk
  refine ⟨by rw [List.length_take]; omega, ?_⟩
  rcases h2 with ⟨h2, _⟩ | ⟨g', cap', cur, hv, hb, hh, hn, hm, hs, ht⟩
  · cases h2
  · cases hv
    refine .inr ⟨g, cap, cur, rfl, hb, hh, by omega, hm, hs, ?_⟩
    rw [← ht, List.take_take]
    congr 1
    omega

theorem ownsRow_tag {w : World} {B : Nat} {e : TypeId} {size g n cap : Nat} {xs : List Value} (h : w.ownsRow B e size (.slice (some ⟨g, 0, none⟩) n cap) n xs) : ∃ cur, w.heap[g]? = some (.cells cur e (0, 0)) ∧ B ≤ g := by
  rcases h.2 with ⟨h2, _⟩ | ⟨g', cap', cur, hv, hb, hh, _⟩
  · cases h2
  · cases hv; exact ⟨cur, hh, hb⟩

theorem ownsRow_cap {w : World} {B : Nat} {e : TypeId} {size g n cap : Nat} {xs : List Value} (h : w.ownsRow B e size (.slice (some ⟨g, 0, none⟩) n cap) n xs) : n ≤ cap := by
  rcases h.2 with ⟨h2, _⟩ | ⟨g', cap', cur, hv, hb, hh, hn, _⟩
  · cases h2
  · cases hv; exact hn

/-- A row of another type is another block. -/
theorem rowIs_ne {w : World} {b g t e n : Nat} {f : Nat → Value} {cur : Array Value} (h : w.rowIs b t n f) (hg : w.heap[g]? = some (.cells cur e (0, 0))) (hte : t ≠ e) : b ≠ g := fun hh => by
  subst hh
  obtain ⟨c, hb, _⟩ := h
  rw [hb] at hg
  cases hg
  exact hte rfl

theorem ownsRow_setOther {w : World} {B : Nat} {e : TypeId} {size g n cap : Nat} {xs : List Value} (h : w.ownsRow B e size (.slice (some ⟨g, 0, none⟩) n cap) n xs) {a : Addr} (ha : g ≠ a.block) (v : Value) : (w.setCell a v).ownsRow B e size (.slice (some ⟨g, 0, none⟩) n cap) n xs := by
  obtain ⟨h1, h2⟩ := h
  refine ⟨h1, ?_⟩
  rcases h2 with ⟨h2, _⟩ | ⟨g', cap', cur, hv, hb, hh, r⟩
  · cases h2
  · cases hv
    exact .inr ⟨g, cap, cur, rfl, hb, by rw [Below.heap_setCell _ _ _ _ ha]; exact hh, r⟩

/-- One search's memory. -/
structure DM (A : Nat → List Nat) (w : World) (n s gs : Nat) (seen : Nat → Bool) (g cap : Nat) (stk : List Nat) (wr : World) : Prop where
  outer : ∃ F : Nat → Value, wr.rowIs w.heap.size 31 n F ∧ ∀ i, i < s → ∃ (b : Nat) (f : Nat → Bool), F i = .slice (some ⟨b, 0, none⟩) n n ∧ w.heap.size < b ∧ b < gs ∧ wr.rowIs b 4 n (fun v => .bool (f v)) ∧ ∀ x, f x = true ↔ Tj.Reach A i x
  mark : wr.rowIs gs 4 n (fun v => .bool (seen v))
  stack : wr.ownsRow (w.heap.size + 1) 3 1 (.slice (some ⟨g, 0, none⟩) stk.length cap) stk.length (stk.reverse.map enc)
  below : Below w.heap.size w wr
  gs_lt : w.heap.size < gs

section
variable {A : Nat → List Nat} {w wr : World} {n s gs g cap : Nat} {seen : Nat → Bool} {stk : List Nat}

theorem DM.keep {w' : World} {row : Option Nat} (h : DM A w n s gs seen g cap stk wr) (hg : wr.grownBy w' row) (hr : ∀ k, row = some k → w.heap.size ≤ k ∧ ∃ cur, wr.heap[k]? = some (.cells cur 3 (0, 0))) :
    (∃ F : Nat → Value, w'.rowIs w.heap.size 31 n F ∧ ∀ i, i < s → ∃ (b : Nat) (f : Nat → Bool), F i = .slice (some ⟨b, 0, none⟩) n n ∧ w.heap.size < b ∧ b < gs ∧ w'.rowIs b 4 n (fun v => .bool (f v)) ∧ ∀ x, f x = true ↔ Tj.Reach A i x) ∧
    w'.rowIs gs 4 n (fun v => .bool (seen v)) ∧ Below w.heap.size w w' := by
  have kp : ∀ {b t : Nat} {f : Nat → Value}, wr.rowIs b t n f → t ≠ 3 → w'.rowIs b t n f := fun {b t f} hb ht => hb.of_block (hg.block b hb.lt (fun e => by
    obtain ⟨_, cur, hcur⟩ := hr b e.symm
    exact rowIs_ne hb hcur ht rfl))
  obtain ⟨F, hF, hrows⟩ := h.outer
  refine ⟨⟨F, kp hF (by decide), fun i hi => ?_⟩, kp h.mark (by decide), h.below.grown hg h.below.size (fun k e => (hr k e).1)⟩
  obtain ⟨b, f, h1, h2, h3, h4, h5⟩ := hrows i hi
  exact ⟨b, f, h1, h2, h3, kp h4 (by decide), h5⟩

theorem DM.alloc (h : DM A w n s gs seen g cap stk wr) (o : Obj) : DM A w n s gs seen g cap stk (wr.alloc o) := by
  obtain ⟨h1, h2, h3⟩ := h.keep (World.grownBy_alloc wr o none) (fun k e => by cases e)
  exact ⟨h1, h2, h.stack.alloc o, h3, h.gs_lt⟩

/-- The top of the stack. -/
theorem DM.top {u : Nat} {r : List Nat} (h : DM A w n s gs seen g cap (u :: r) wr) : wr.cell? ⟨g, r.length, none⟩ = some (.int .i64 (u : Int)) := by
  have := h.stack.cellAt r.length (by simp)
  rw [this]
  simp [enc]

theorem DM.pop {u : Nat} {r : List Nat} (h : DM A w n s gs seen g cap (u :: r) wr) : DM A w n s gs seen g cap r wr := by
  refine ⟨h.outer, h.mark, ?_, h.below, h.gs_lt⟩
  have := ownsRow_cut h.stack (k := r.length) (by simp)
  have e : ((u :: r).reverse.map enc).take (r.length * 1) = r.reverse.map enc := by
    rw [List.reverse_cons, List.map_append, List.take_left' (by simp)]
  rwa [e] at this

theorem DM.put (h : DM A w n s gs seen g cap stk wr) (v : Nat) : DM A w n s gs (upd seen v true) g cap stk (wr.setCell ⟨gs, v, none⟩ (.bool true)) := by
  obtain ⟨cur, hcur, _⟩ := ownsRow_tag h.stack
  have hne : gs ≠ g := rowIs_ne h.mark hcur (by decide)
  have kp : ∀ {b t : Nat} {f : Nat → Value}, wr.rowIs b t n f → b ≠ gs → (wr.setCell ⟨gs, v, none⟩ (.bool true)).rowIs b t n f := fun hb hn => hb.setOther (a := ⟨gs, v, none⟩) hn _
  obtain ⟨F, hF, hrows⟩ := h.outer
  have hl := h.gs_lt
  refine ⟨⟨F, kp hF (by omega), fun i hi => ?_⟩, (h.mark.set v _).congr (fun i _ => ?_), ownsRow_setOther h.stack (a := ⟨gs, v, none⟩) (fun e => hne e.symm) _, h.below.setCell (Nat.le_of_lt hl) _, hl⟩
  · obtain ⟨b, f, h1, h2, h3, h4, h5⟩ := hrows i hi
    exact ⟨b, f, h1, h2, h3, kp h4 (by omega), h5⟩
  · by_cases e : i = v
    · subst e; rw [if_pos rfl, upd_same]
    · rw [if_neg e, upd_other _ _ e]

theorem DM.push {w' : World} {g' cap' v : Nat} (h : DM A w n s gs seen g cap stk wr) (hown : w'.ownsRow (w.heap.size + 1) 3 1 (.slice (some ⟨g', 0, none⟩) (stk.length + 1) cap') (stk.length + 1) (stk.reverse.map enc ++ [.int .i64 (v : Int)])) (hg : wr.grownBy w' (some g)) : DM A w n s gs seen g' cap' (v :: stk) w' := by
  obtain ⟨cur, hcur, hgb⟩ := ownsRow_tag h.stack
  obtain ⟨h1, h2, h3⟩ := h.keep hg (fun k e => by cases e; exact ⟨by omega, cur, hcur⟩)
  refine ⟨h1, h2, ?_, h3, h.gs_lt⟩
  have e : (v :: stk).reverse.map enc = stk.reverse.map enc ++ [.int .i64 (v : Int)] := by simp [enc]
  rw [e]
  exact hown
end

/-- Between two searches. -/
structure DO (A : Nat → List Nat) (w : World) (n s g cap L : Nat) (wr : World) : Prop where
  outer : ∃ F : Nat → Value, wr.rowIs w.heap.size 31 n F ∧ ∀ i, i < s → ∃ (b : Nat) (f : Nat → Bool), F i = .slice (some ⟨b, 0, none⟩) n n ∧ w.heap.size < b ∧ b < wr.heap.size ∧ wr.rowIs b 4 n (fun v => .bool (f v)) ∧ ∀ x, f x = true ↔ Tj.Reach A i x
  stack : ∃ xs, wr.ownsRow (w.heap.size + 1) 3 1 (.slice (some ⟨g, 0, none⟩) L cap) L xs
  below : Below w.heap.size w wr

theorem DO.start (A : Nat → List Nat) (w : World) (n : Nat) (hn : n ≤ 1048576) : DO A w n 0 (w.heap.size + 1) n 0 ((w.alloc (.cells (madeCells #[.slice none 0 0] n) 31)).alloc (.cells (madeCells #[.int .i64 0] n) 3)) := by
  refine ⟨⟨_, (World.rowIs_made w _ _ _).alloc _, fun i hi => by omega⟩, ⟨[], ?_⟩, ((Below.refl _ _).alloc (Nat.le_refl _) _).alloc (by simp) _⟩
  have := World.ownsRow_made (base := w.heap.size + 1) (e := 3) (size := 1) (w.alloc (.cells (madeCells #[.slice none 0 0] n) 31)) (madeCells #[.int .i64 0] n) n (by simp) (by unfold maxLen; omega) (by simp [size_madeCells])
  simpa using this

/-- The marks are laid, the root is marked and put. -/
theorem DO.begin {A : Nat → List Nat} {w wr w' : World} {n s g cap L g' cap' : Nat} (h : DO A w n s g cap L wr) (hs : s < n)
    (hown : w'.ownsRow (w.heap.size + 1) 3 1 (.slice (some ⟨g', 0, none⟩) 1 cap') 1 [.int .i64 (s : Int)])
    (hg : ((wr.alloc (.cells ((madeCells #[.bool false] n).setIfInBounds s (.bool true)) 4)).alloc (.cells #[.int .i64 (s : Int)] 3)).grownBy w' (some g)) :
    DM A w n s wr.heap.size (upd (fun _ => false) s true) g' cap' [s] w' := by
  obtain ⟨xs, hst⟩ := h.stack
  obtain ⟨cur, hcur, hgb⟩ := ownsRow_tag hst
  obtain ⟨F, hF, hrows⟩ := h.outer
  have hsz := h.below.size
  have hgl : g < wr.heap.size := (Array.getElem?_eq_some_iff.1 hcur).1
  have mk : (wr.alloc (.cells ((madeCells #[.bool false] n).setIfInBounds s (.bool true)) 4)).rowIs wr.heap.size 4 n (fun v => .bool (upd (fun _ => false) s true v)) := by
    have e : (madeCells #[Value.bool false] n).size = n := size_madeCells _ _
    have := World.rowIs_alloc wr ((madeCells #[.bool false] n).setIfInBounds s (.bool true)) 4 (fun v => .bool (upd (fun _ => false) s true v)) (fun i hi => by
      rw [Array.size_setIfInBounds, e] at hi
      rw [Array.getElem?_setIfInBounds]
      by_cases hh : i = s
      · subst hh; rw [if_pos rfl, upd_same, e, if_pos hi]
      · rw [if_neg (fun h => hh h.symm), upd_other _ _ hh]
        simp [madeCells, hi, Nat.mod_one])
    rwa [Array.size_setIfInBounds, e] at this
  have kp : ∀ {b t : Nat} {f : Nat → Value}, ((wr.alloc (.cells ((madeCells #[.bool false] n).setIfInBounds s (.bool true)) 4)).alloc (.cells #[.int .i64 (s : Int)] 3)).rowIs b t n f → b ≠ g → w'.rowIs b t n f := fun {b t f} hb hne => hb.of_block (hg.block b hb.lt (fun e => by cases e; exact hne rfl))
  have ne31 : w.heap.size ≠ g := rowIs_ne hF hcur (by decide)
  refine ⟨⟨F, kp ((hF.alloc _).alloc _) ne31, fun i hi => ?_⟩, kp (mk.alloc _) (by omega), by simpa [enc] using hown, ?_, by omega⟩
  · obtain ⟨b, f, h1, h2, h3, h4, h5⟩ := hrows i hi
    exact ⟨b, f, h1, h2, h3, kp ((h4.alloc _).alloc _) (rowIs_ne h4 hcur (by decide)), h5⟩
  · exact ((h.below.alloc hsz _).alloc (by simp; omega) _).grown hg (by simp; omega) (fun k e => by cases e; omega)

/-- The search is done, its marks handed to the outer row. -/
theorem DM.done {A : Nat → List Nat} {w wr : World} {n s gs g cap : Nat} {seen : Nat → Bool} (h : DM A w n s gs seen g cap [] wr) (hr : ∀ x, seen x = true ↔ Tj.Reach A s x) : DO A w n (s + 1) g cap 0 (wr.setCell ⟨w.heap.size, s, none⟩ (.slice (some ⟨gs, 0, none⟩) n n)) := by
  obtain ⟨cur, hcur, hgb⟩ := ownsRow_tag h.stack
  obtain ⟨F, hF, hrows⟩ := h.outer
  have hl := h.gs_lt
  have hne : w.heap.size ≠ g := rowIs_ne hF hcur (by decide)
  have hsz : (wr.setCell ⟨w.heap.size, s, none⟩ (.slice (some ⟨gs, 0, none⟩) n n)).heap.size = wr.heap.size := by simp [World.setCell]
  have kp : ∀ {b t : Nat} {f : Nat → Value}, wr.rowIs b t n f → b ≠ w.heap.size → (wr.setCell ⟨w.heap.size, s, none⟩ (.slice (some ⟨gs, 0, none⟩) n n)).rowIs b t n f := fun hb hn => hb.setOther (a := ⟨w.heap.size, s, none⟩) hn _
  refine ⟨⟨_, hF.set s _, fun i hi => ?_⟩, ⟨_, ownsRow_setOther h.stack (a := ⟨w.heap.size, s, none⟩) (fun e => hne e.symm) _⟩, h.below.setCell (Nat.le_refl _) _⟩
  by_cases e : i = s
  · subst e
    exact ⟨gs, seen, if_pos rfl, hl, by rw [hsz]; exact h.mark.lt, kp h.mark (by omega), hr⟩
  · obtain ⟨b, f, h1, h2, h3, h4, h5⟩ := hrows i (by omega)
    exact ⟨b, f, (if_neg e).trans h1, h2, by rw [hsz]; have := h4.lt; omega, kp h4 (by omega), h5⟩
end Go.Proofs.Qxb6603228a
