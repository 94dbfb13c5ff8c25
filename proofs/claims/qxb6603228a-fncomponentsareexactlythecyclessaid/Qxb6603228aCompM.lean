/-
  components: what lies in memory while she walks: nine blocks that stay (the arrays index, low, onStack; the boxes of the captured variables), and the slices that grow (stack, walk, found, comps).
-/
import Derived.Test.Qxb6603228aModel
import Derived.RangeFuncBox
namespace Go.Proofs.Qxb6603228a
open Go.RowKit Tj

/-! ### The nine blocks -/

structure FM (N n : Nat) (idx low : Nat → Nat) (on : Nat → Bool) (vs vw : Value) (cnt : Nat) (wr : World) : Prop where
  idx : wr.rowIs N 3 n (fun i => enc (idx i))
  bidx : Boxed wr (N + 1) 29 (.slice (some ⟨N, 0, none⟩) n n)
  low : wr.rowIs (N + 2) 3 n (fun i => enc (low i))
  blow : Boxed wr (N + 3) 29 (.slice (some ⟨N + 2, 0, none⟩) n n)
  on : wr.rowIs (N + 4) 4 n (fun i => .bool (on i))
  bon : Boxed wr (N + 5) 31 (.slice (some ⟨N + 4, 0, none⟩) n n)
  bstk : Boxed wr (N + 6) 29 vs
  bwlk : Boxed wr (N + 7) 73 vw
  bcnt : Boxed wr (N + 8) 3 (enc cnt)

theorem rowIs_grown {w w' : World} {b t n : Nat} {f : Nat → Value} {row : Option Nat} (h : w.rowIs b t n f) (hg : w.grownBy w' row) (hne : some b ≠ row) : w'.rowIs b t n f := h.of_block (hg.block b h.lt hne)

theorem grownBy_set (w : World) (a : Addr) (v : Value) : w.grownBy (w.setCell a v) (some a.block) :=
  ⟨rfl, rfl, rfl, by simp [World.setCell], fun k _ hk => Below.heap_setCell _ _ _ k (fun e => hk (by rw [e]))⟩

section
variable {N n : Nat} {idx low : Nat → Nat} {on : Nat → Bool} {vs vw : Value} {cnt : Nat} {wr : World}

theorem FM.keep {w' : World} {row : Option Nat} (h : FM N n idx low on vs vw cnt wr) (hg : wr.grownBy w' row) (hr : ∀ r, row = some r → N + 9 ≤ r) : FM N n idx low on vs vw cnt w' := by
  have ne : ∀ b, b < N + 9 → some b ≠ row := fun b hb e => by have := hr b e.symm; omega
  exact ⟨rowIs_grown h.idx hg (ne _ (by omega)), h.bidx.kept hg (ne _ (by omega)), rowIs_grown h.low hg (ne _ (by omega)), h.blow.kept hg (ne _ (by omega)), rowIs_grown h.on hg (ne _ (by omega)), h.bon.kept hg (ne _ (by omega)),
    h.bstk.kept hg (ne _ (by omega)), h.bwlk.kept hg (ne _ (by omega)), h.bcnt.kept hg (ne _ (by omega))⟩

theorem ne_some {a b : Nat} (h : a ≠ b) : some a ≠ some b := fun e => h (Option.some.inj e)

theorem FM.setIdx (h : FM N n idx low on vs vw cnt wr) (x c : Nat) : FM N n (upd idx x c) low on vs vw cnt (wr.setCell ⟨N, x, none⟩ (enc c)) := by
  have hg := grownBy_set wr ⟨N, x, none⟩ (enc c)
  exact ⟨(h.idx.set x _).congr (fun i _ => by by_cases e : i = x <;> simp [upd, e]), h.bidx.kept hg (ne_some (by show N + 1 ≠ N; omega)), rowIs_grown h.low hg (ne_some (by show N + 2 ≠ N; omega)), h.blow.kept hg (ne_some (by show N + 3 ≠ N; omega)), rowIs_grown h.on hg (ne_some (by show N + 4 ≠ N; omega)),
    h.bon.kept hg (ne_some (by show N + 5 ≠ N; omega)), h.bstk.kept hg (ne_some (by show N + 6 ≠ N; omega)), h.bwlk.kept hg (ne_some (by show N + 7 ≠ N; omega)), h.bcnt.kept hg (ne_some (by show N + 8 ≠ N; omega))⟩

theorem FM.setLow (h : FM N n idx low on vs vw cnt wr) (x c : Nat) : FM N n idx (upd low x c) on vs vw cnt (wr.setCell ⟨N + 2, x, none⟩ (enc c)) := by
  have hg := grownBy_set wr ⟨N + 2, x, none⟩ (enc c)
  exact ⟨rowIs_grown h.idx hg (ne_some (by show N ≠ N + 2; omega)), h.bidx.kept hg (ne_some (by show N + 1 ≠ N + 2; omega)), (h.low.set x _).congr (fun i _ => by by_cases e : i = x <;> simp [upd, e]), h.blow.kept hg (ne_some (by show N + 3 ≠ N + 2; omega)), rowIs_grown h.on hg (ne_some (by show N + 4 ≠ N + 2; omega)),
    h.bon.kept hg (ne_some (by show N + 5 ≠ N + 2; omega)), h.bstk.kept hg (ne_some (by show N + 6 ≠ N + 2; omega)), h.bwlk.kept hg (ne_some (by show N + 7 ≠ N + 2; omega)), h.bcnt.kept hg (ne_some (by show N + 8 ≠ N + 2; omega))⟩

theorem FM.setOn (h : FM N n idx low on vs vw cnt wr) (x : Nat) (q : Bool) : FM N n idx low (upd on x q) vs vw cnt (wr.setCell ⟨N + 4, x, none⟩ (.bool q)) := by
  have hg := grownBy_set wr ⟨N + 4, x, none⟩ (.bool q)
  exact ⟨rowIs_grown h.idx hg (ne_some (by show N ≠ N + 4; omega)), h.bidx.kept hg (ne_some (by show N + 1 ≠ N + 4; omega)), rowIs_grown h.low hg (ne_some (by show N + 2 ≠ N + 4; omega)), h.blow.kept hg (ne_some (by show N + 3 ≠ N + 4; omega)), (h.on.set x _).congr (fun i _ => by by_cases e : i = x <;> simp [upd, e]),
    h.bon.kept hg (ne_some (by show N + 5 ≠ N + 4; omega)), h.bstk.kept hg (ne_some (by show N + 6 ≠ N + 4; omega)), h.bwlk.kept hg (ne_some (by show N + 7 ≠ N + 4; omega)), h.bcnt.kept hg (ne_some (by show N + 8 ≠ N + 4; omega))⟩

theorem FM.setStk (h : FM N n idx low on vs vw cnt wr) (v : Value) : FM N n idx low on v vw cnt (wr.setCell ⟨N + 6, 0, none⟩ v) := by
  have hg := grownBy_set wr ⟨N + 6, 0, none⟩ v
  exact ⟨rowIs_grown h.idx hg (ne_some (by show N ≠ N + 6; omega)), h.bidx.kept hg (ne_some (by show N + 1 ≠ N + 6; omega)), rowIs_grown h.low hg (ne_some (by show N + 2 ≠ N + 6; omega)), h.blow.kept hg (ne_some (by show N + 3 ≠ N + 6; omega)), rowIs_grown h.on hg (ne_some (by show N + 4 ≠ N + 6; omega)),
    h.bon.kept hg (ne_some (by show N + 5 ≠ N + 6; omega)), h.bstk.set v, h.bwlk.kept hg (ne_some (by show N + 7 ≠ N + 6; omega)), h.bcnt.kept hg (ne_some (by show N + 8 ≠ N + 6; omega))⟩

theorem FM.setWlk (h : FM N n idx low on vs vw cnt wr) (v : Value) : FM N n idx low on vs v cnt (wr.setCell ⟨N + 7, 0, none⟩ v) := by
  have hg := grownBy_set wr ⟨N + 7, 0, none⟩ v
  exact ⟨rowIs_grown h.idx hg (ne_some (by show N ≠ N + 7; omega)), h.bidx.kept hg (ne_some (by show N + 1 ≠ N + 7; omega)), rowIs_grown h.low hg (ne_some (by show N + 2 ≠ N + 7; omega)), h.blow.kept hg (ne_some (by show N + 3 ≠ N + 7; omega)), rowIs_grown h.on hg (ne_some (by show N + 4 ≠ N + 7; omega)),
    h.bon.kept hg (ne_some (by show N + 5 ≠ N + 7; omega)), h.bstk.kept hg (ne_some (by show N + 6 ≠ N + 7; omega)), h.bwlk.set v, h.bcnt.kept hg (ne_some (by show N + 8 ≠ N + 7; omega))⟩

theorem FM.setCnt (h : FM N n idx low on vs vw cnt wr) (c : Nat) : FM N n idx low on vs vw c (wr.setCell ⟨N + 8, 0, none⟩ (enc c)) := by
  have hg := grownBy_set wr ⟨N + 8, 0, none⟩ (enc c)
  exact ⟨rowIs_grown h.idx hg (ne_some (by show N ≠ N + 8; omega)), h.bidx.kept hg (ne_some (by show N + 1 ≠ N + 8; omega)), rowIs_grown h.low hg (ne_some (by show N + 2 ≠ N + 8; omega)), h.blow.kept hg (ne_some (by show N + 3 ≠ N + 8; omega)), rowIs_grown h.on hg (ne_some (by show N + 4 ≠ N + 8; omega)),
    h.bon.kept hg (ne_some (by show N + 5 ≠ N + 8; omega)), h.bstk.kept hg (ne_some (by show N + 6 ≠ N + 8; omega)), h.bwlk.kept hg (ne_some (by show N + 7 ≠ N + 8; omega)), h.bcnt.set _⟩
end

/-! ### The slices that grow -/

/-- The frames' cells, the top frame last. -/
def cells2 (W : List (Nat × Nat)) : List Value := W.reverse.flatMap (fun f => [enc f.1, enc f.2])

theorem cells2_len (W : List (Nat × Nat)) : (cells2 W).length = W.length * 2 := by
  induction W with
  | nil => rfl
  | cons f r ih => simp only [cells2, List.reverse_cons, List.flatMap_append, List.length_append] at ih ⊢; simp at ih ⊢; omega

theorem cells2_cons (f : Nat × Nat) (r : List (Nat × Nat)) : cells2 (f :: r) = cells2 r ++ [enc f.1, enc f.2] := by simp [cells2]

/-- A block of the call's own that none of the growing slices lies in. -/
def Free (N : Nat) (vs vw vf vc : Value) (H b : Nat) : Prop := N + 9 ≤ b ∧ b < H ∧ vs.ownBlock ≠ some b ∧ vw.ownBlock ≠ some b ∧ vf.ownBlock ≠ some b ∧ vc.ownBlock ≠ some b

structure OM (N : Nat) (vs vw vf vc : Value) (stk : List Nat) (wlk : List (Nat × Nat)) (fnd : List Nat) (cmp : List (List Nat)) (wr : World) : Prop where
  stk : wr.ownsRow (N + 9) 3 1 vs stk.length (stk.reverse.map enc)
  wlk : wr.ownsRow (N + 9) 75 2 vw wlk.length (cells2 wlk)
  fnd : wr.ownsRow (N + 9) 3 1 vf fnd.length (fnd.map enc)
  sep : ∀ b, vs.ownBlock = some b → vf.ownBlock ≠ some b
  cmp : ∃ us, wr.ownsRow (N + 9) 29 1 vc cmp.length us ∧ ∀ i, i < cmp.length → ∃ u, us[i]? = some u ∧ RowAt wr (Free N vs vw vf vc wr.heap.size) u (castL (cmp.getD i []))
  size : N + 9 ≤ wr.heap.size

/-- Slices of two types own two blocks. -/
theorem owns_ne {w : World} {B B' : Nat} {e e' : TypeId} {size size' : Nat} {v v' : Value} {n n' : Nat} {xs xs' : List Value} (h : w.ownsRow B e size v n xs) (h' : w.ownsRow B' e' size' v' n' xs') (hne : e ≠ e') : ∀ b, v.ownBlock = some b → v'.ownBlock ≠ some b := by
  intro b hb hb'
  rcases h.2 with ⟨rfl, _⟩ | ⟨g, cap, cur, rfl, _, hh, _⟩
  · simp [Value.ownBlock] at hb
  · rcases h'.2 with ⟨rfl, _⟩ | ⟨g', cap', cur', rfl, _, hh', _⟩
    · simp [Value.ownBlock] at hb'
    · simp [Value.ownBlock] at hb hb'
      subst hb
      subst hb'
      rw [hh] at hh'
      cases hh'
      exact hne rfl

theorem kept_by {w w' : World} {B : Nat} {e : TypeId} {size : Nat} {v : Value} {n : Nat} {xs : List Value} {row : Option Nat} (h : w.ownsRow B e size v n xs) (hg : w.grownBy w' row) (hne : ∀ b, v.ownBlock = some b → row ≠ some b) : w'.ownsRow B e size v n xs := by
  refine h.kept hg ?_
  cases hv : v.ownBlock with
  | none => exact .inl rfl
  | some b => exact .inr (fun e => hne b hv e.symm)

section
variable {N : Nat} {vs vw vf vc : Value} {stk : List Nat} {wlk : List (Nat × Nat)} {fnd : List Nat} {cmp : List (List Nat)} {wr : World}

/-- Nothing of the growing slices is written. -/
theorem OM.keep {w' : World} {row : Option Nat} (h : OM N vs vw vf vc stk wlk fnd cmp wr) (hg : wr.grownBy w' row) (hr : ∀ r, row = some r → r < N + 9) : OM N vs vw vf vc stk wlk fnd cmp w' := by
  obtain ⟨us, h1, h2⟩ := h.cmp
  have hs := hg.size
  have ne : ∀ {e : TypeId} {size : Nat} {v : Value} {n : Nat} {xs : List Value}, wr.ownsRow (N + 9) e size v n xs → ∀ b, v.ownBlock = some b → row ≠ some b := fun ho b hb e => by
    have := (ho.lt b hb).1; have := hr b e; omega
  refine ⟨kept_by h.stk hg (ne h.stk), kept_by h.wlk hg (ne h.wlk), kept_by h.fnd hg (ne h.fnd), h.sep, ⟨us, kept_by h1 hg (ne h1), fun i hi => ?_⟩, by have := h.size; omega⟩
  obtain ⟨u, h3, h4⟩ := h2 i hi
  exact ⟨u, h3, h4.keep (fun b hb => hg.block b hb.2.1 (fun e => by have := hr b e.symm; have := hb.1; omega)) (fun b hb => ⟨hb.1, by have := hb.2.1; omega, hb.2.2⟩)⟩

theorem OM.alloc (h : OM N vs vw vf vc stk wlk fnd cmp wr) (o : Obj) : OM N vs vw vf vc stk wlk fnd cmp (wr.alloc o) := h.keep (World.grownBy_alloc wr o none) (fun r e => by cases e)

theorem OM.set (h : OM N vs vw vf vc stk wlk fnd cmp wr) (a : Addr) (ha : a.block < N + 9) (v : Value) : OM N vs vw vf vc stk wlk fnd cmp (wr.setCell a v) := h.keep (grownBy_set wr a v) (fun r e => by cases e; exact ha)

theorem OM.pushStk {w' : World} {g cap x : Nat} (h : OM N vs vw vf vc stk wlk fnd cmp wr) (hown : w'.ownsRow (N + 9) 3 1 (.slice (some ⟨g, 0, none⟩) (stk.length + 1) cap) (stk.length + 1) (stk.reverse.map enc ++ [enc x])) (hg : wr.grownBy w' vs.ownBlock)
    (hblk : vs.ownBlock = some g ∨ wr.heap.size ≤ g) : OM N (.slice (some ⟨g, 0, none⟩) (stk.length + 1) cap) vw vf vc (x :: stk) wlk fnd cmp w' := by
  obtain ⟨us, h1, h2⟩ := h.cmp
  have hs := hg.size
  have new : ∀ b, b < wr.heap.size → vs.ownBlock ≠ some b → (Value.slice (some ⟨g, 0, none⟩) (stk.length + 1) cap).ownBlock ≠ some b := fun b hb hne e => by
    simp [Value.ownBlock] at e; subst e
    rcases hblk with h0 | h0
    · exact hne h0
    · omega
  refine ⟨by simpa using hown, kept_by h.wlk hg (fun b hb e => owns_ne h.stk h.wlk (by decide) b e hb), kept_by h.fnd hg (fun b hb e => h.sep b e hb), fun b hb hb' => ?_, ⟨us, kept_by h1 hg (fun b hb e => owns_ne h.stk h1 (by decide) b e hb), fun i hi => ?_⟩, by have := h.size; omega⟩
  · by_cases hv : vs.ownBlock = some b
    · exact h.sep b hv hb'
    · exact new b (h.fnd.lt b hb').2 hv hb
  · obtain ⟨u, h3, h4⟩ := h2 i hi
    exact ⟨u, h3, h4.keep (fun b hb => hg.block b hb.2.1 (fun e => hb.2.2.1 e.symm)) (fun b hb => ⟨hb.1, by have := hb.2.1; omega, new b hb.2.1 hb.2.2.1, hb.2.2.2⟩)⟩

theorem OM.pushWlk {w' : World} {g cap x : Nat} (h : OM N vs vw vf vc stk wlk fnd cmp wr) (hown : w'.ownsRow (N + 9) 75 2 (.slice (some ⟨g, 0, none⟩) (wlk.length + 1) cap) (wlk.length + 1) (cells2 wlk ++ [enc x, enc 0])) (hg : wr.grownBy w' vw.ownBlock)
    (hblk : vw.ownBlock = some g ∨ wr.heap.size ≤ g) : OM N vs (.slice (some ⟨g, 0, none⟩) (wlk.length + 1) cap) vf vc stk ((x, 0) :: wlk) fnd cmp w' := by
  obtain ⟨us, h1, h2⟩ := h.cmp
  have hs := hg.size
  have new : ∀ b, b < wr.heap.size → vw.ownBlock ≠ some b → (Value.slice (some ⟨g, 0, none⟩) (wlk.length + 1) cap).ownBlock ≠ some b := fun b hb hne e => by
    simp [Value.ownBlock] at e; subst e
    rcases hblk with h0 | h0
    · exact hne h0
    · omega
  refine ⟨kept_by h.stk hg (fun b hb e => owns_ne h.wlk h.stk (by decide) b e hb), by rw [cells2_cons]; exact hown, kept_by h.fnd hg (fun b hb e => owns_ne h.wlk h.fnd (by decide) b e hb), h.sep, ⟨us, kept_by h1 hg (fun b hb e => owns_ne h.wlk h1 (by decide) b e hb), fun i hi => ?_⟩, by have := h.size; omega⟩
  obtain ⟨u, h3, h4⟩ := h2 i hi
  exact ⟨u, h3, h4.keep (fun b hb => hg.block b hb.2.1 (fun e => hb.2.2.2.1 e.symm)) (fun b hb => ⟨hb.1, by have := hb.2.1; omega, hb.2.2.1, new b hb.2.1 hb.2.2.2.1, hb.2.2.2.2⟩)⟩

theorem OM.pushFnd {w' : World} {g cap x : Nat} (h : OM N vs vw vf vc stk wlk fnd cmp wr) (hown : w'.ownsRow (N + 9) 3 1 (.slice (some ⟨g, 0, none⟩) (fnd.length + 1) cap) (fnd.length + 1) (fnd.map enc ++ [enc x])) (hg : wr.grownBy w' vf.ownBlock)
    (hblk : vf.ownBlock = some g ∨ wr.heap.size ≤ g) : OM N vs vw (.slice (some ⟨g, 0, none⟩) (fnd.length + 1) cap) vc stk wlk (fnd ++ [x]) cmp w' := by
  obtain ⟨us, h1, h2⟩ := h.cmp
  have hs := hg.size
  have new : ∀ b, b < wr.heap.size → vf.ownBlock ≠ some b → (Value.slice (some ⟨g, 0, none⟩) (fnd.length + 1) cap).ownBlock ≠ some b := fun b hb hne e => by
    simp [Value.ownBlock] at e; subst e
    rcases hblk with h0 | h0
    · exact hne h0
    · omega
  refine ⟨kept_by h.stk hg (fun b hb e => h.sep b hb e), kept_by h.wlk hg (fun b hb e => owns_ne h.fnd h.wlk (by decide) b e hb), by simpa using hown, fun b hb => new b (h.stk.lt b hb).2 (h.sep b hb), ⟨us, kept_by h1 hg (fun b hb e => owns_ne h.fnd h1 (by decide) b e hb), fun i hi => ?_⟩, by have := h.size; omega⟩
  obtain ⟨u, h3, h4⟩ := h2 i hi
  exact ⟨u, h3, h4.keep (fun b hb => hg.block b hb.2.1 (fun e => hb.2.2.2.2.1 e.symm)) (fun b hb => ⟨hb.1, by have := hb.2.1; omega, hb.2.2.1, hb.2.2.2.1, new b hb.2.1 hb.2.2.2.2.1, hb.2.2.2.2.2⟩)⟩

theorem OM.pushCmp {w' : World} {g cap : Nat} {u : Value} {c : List Nat} {us : List Value} (h : OM N vs vw vf vc stk wlk fnd cmp wr) (hu : RowAt wr (Free N vs vw vf vc wr.heap.size) u (castL c))
    (hus : ∀ i, i < cmp.length → ∃ u, us[i]? = some u ∧ RowAt wr (Free N vs vw vf vc wr.heap.size) u (castL (cmp.getD i []))) (hlen : us.length = cmp.length)
    (hown : w'.ownsRow (N + 9) 29 1 (.slice (some ⟨g, 0, none⟩) (cmp.length + 1) cap) (cmp.length + 1) (us ++ [u])) (hg : wr.grownBy w' vc.ownBlock)
    (hblk : vc.ownBlock = some g ∨ wr.heap.size ≤ g) : OM N vs vw vf (.slice (some ⟨g, 0, none⟩) (cmp.length + 1) cap) stk wlk fnd (cmp ++ [c]) w' := by
  obtain ⟨us0, h1, _⟩ := h.cmp
  have hs := hg.size
  have new : ∀ b, b < wr.heap.size → vc.ownBlock ≠ some b → (Value.slice (some ⟨g, 0, none⟩) (cmp.length + 1) cap).ownBlock ≠ some b := fun b hb hne e => by
    simp [Value.ownBlock] at e; subst e
    rcases hblk with h0 | h0
    · exact hne h0
    · omega
  have kr : ∀ {x : Value} {xs : List Int}, RowAt wr (Free N vs vw vf vc wr.heap.size) x xs → RowAt w' (Free N vs vw vf (.slice (some ⟨g, 0, none⟩) (cmp.length + 1) cap) w'.heap.size) x xs := fun hx =>
    hx.keep (fun b hb => hg.block b hb.2.1 (fun e => hb.2.2.2.2.2 e.symm)) (fun b hb => ⟨hb.1, by have := hb.2.1; omega, hb.2.2.1, hb.2.2.2.1, hb.2.2.2.2.1, new b hb.2.1 hb.2.2.2.2.2⟩)
  refine ⟨kept_by h.stk hg (fun b hb e => owns_ne h1 h.stk (by decide) b e hb), kept_by h.wlk hg (fun b hb e => owns_ne h1 h.wlk (by decide) b e hb), kept_by h.fnd hg (fun b hb e => owns_ne h1 h.fnd (by decide) b e hb), h.sep, ⟨us ++ [u], by simpa using hown, fun i hi => ?_⟩, by have := h.size; omega⟩
  by_cases e : i < cmp.length
  · obtain ⟨x, h3, h4⟩ := hus i e
    refine ⟨x, by rw [List.getElem?_append_left (by omega)]; exact h3, ?_⟩
    have e2 : (cmp ++ [c]).getD i [] = cmp.getD i [] := by simp [List.getD_eq_getElem?_getD, List.getElem?_append_left e]
    rw [e2]
    exact kr h4
  · have ei : i = cmp.length := by simp at hi; omega
    subst ei
    refine ⟨u, by rw [List.getElem?_append_right (by omega), hlen]; simp, ?_⟩
    have e2 : (cmp ++ [c]).getD cmp.length [] = c := by simp [List.getD_eq_getElem?_getD]
    rw [e2]
    exact kr hu
end

section
variable {N : Nat} {vs vw vf vc : Value} {stk : List Nat} {wlk : List (Nat × Nat)} {fnd : List Nat} {cmp : List (List Nat)} {wr : World}

theorem OM.popStk {g cap x : Nat} (h : OM N (.slice (some ⟨g, 0, none⟩) (stk.length + 1) cap) vw vf vc (x :: stk) wlk fnd cmp wr) : OM N (.slice (some ⟨g, 0, none⟩) stk.length cap) vw vf vc stk wlk fnd cmp wr := by
  obtain ⟨us, h1, h2⟩ := h.cmp
  refine ⟨?_, h.wlk, h.fnd, fun b hb => h.sep b hb, ⟨us, h1, fun i hi => ?_⟩, h.size⟩
  · have := ownsRow_cut h.stk (k := stk.length) (by simp)
    have e : ((x :: stk).reverse.map enc).take (stk.length * 1) = stk.reverse.map enc := by
      rw [List.reverse_cons, List.map_append, List.take_left' (by simp)]
    rwa [e] at this
  · exact h2 i hi

theorem OM.popWlk {g cap : Nat} {f : Nat × Nat} (h : OM N vs (.slice (some ⟨g, 0, none⟩) (wlk.length + 1) cap) vf vc stk (f :: wlk) fnd cmp wr) : OM N vs (.slice (some ⟨g, 0, none⟩) wlk.length cap) vf vc stk wlk fnd cmp wr := by
  obtain ⟨us, h1, h2⟩ := h.cmp
  refine ⟨h.stk, ?_, h.fnd, h.sep, ⟨us, h1, fun i hi => ?_⟩, h.size⟩
  · have := ownsRow_cut h.wlk (k := wlk.length) (by simp)
    rw [cells2_cons, List.take_left' (by rw [cells2_len])] at this
    exact this
  · exact h2 i hi

theorem OM.cutFnd {g L cap : Nat} (h : OM N vs vw (.slice (some ⟨g, 0, none⟩) L cap) vc stk wlk fnd cmp wr) : OM N vs vw (.slice (some ⟨g, 0, none⟩) 0 cap) vc stk wlk [] cmp wr := by
  obtain ⟨us, h1, h2⟩ := h.cmp
  refine ⟨h.stk, h.wlk, ?_, h.sep, ⟨us, h1, fun i hi => ?_⟩, h.size⟩
  · have hL : L = fnd.length := by
      rcases h.fnd.2 with ⟨h0, _⟩ | ⟨g', cap', cur, hv, _⟩
      · cases h0
      · cases hv; rfl
    have hf := h.fnd
    rw [hL] at hf
    have := ownsRow_cut hf (k := 0) (Nat.zero_le _)
    simpa using this
  · exact h2 i hi

theorem OM.cutNil (h : OM N vs vw (.slice none 0 0) vc stk wlk fnd cmp wr) : OM N vs vw (.slice none 0 0) vc stk wlk [] cmp wr :=
  ⟨h.stk, h.wlk, World.ownsRow_nil _ _ _ _, h.sep, h.cmp, h.size⟩

/-- The top frame's next edge is stored. -/
theorem OM.next {g cap v k : Nat} (h : OM N vs (.slice (some ⟨g, 0, none⟩) (wlk.length + 1) cap) vf vc stk ((v, k) :: wlk) fnd cmp wr) (j : Nat) : OM N vs (.slice (some ⟨g, 0, none⟩) (wlk.length + 1) cap) vf vc stk ((v, j) :: wlk) fnd cmp (wr.setCell ⟨g, wlk.length * 2 + 1, none⟩ (enc j)) := by
  obtain ⟨us, h1, h2⟩ := h.cmp
  have hg := grownBy_set wr ⟨g, wlk.length * 2 + 1, none⟩ (enc j)
  have hst := h.wlk.stored (wlk.length * 2 + 1) (enc j)
  refine ⟨kept_by h.stk hg (fun b hb e => owns_ne h.wlk h.stk (by decide) b e hb), ?_, kept_by h.fnd hg (fun b hb e => owns_ne h.wlk h.fnd (by decide) b e hb), h.sep, ⟨us, kept_by h1 hg (fun b hb e => owns_ne h.wlk h1 (by decide) b e hb), fun i hi => ?_⟩, by have := h.size; simpa [World.setCell] using this⟩
  · have e : (cells2 ((v, k) :: wlk)).set (wlk.length * 2 + 1) (enc j) = cells2 ((v, j) :: wlk) := by
      rw [cells2_cons, cells2_cons, List.set_append_right _ _ (by rw [cells2_len]; omega), cells2_len]
      have : wlk.length * 2 + 1 - wlk.length * 2 = 1 := by omega
      rw [this]
      rfl
    have h0 := hst.1
    rw [e] at h0
    exact h0
  · obtain ⟨u, h3, h4⟩ := h2 i hi
    refine ⟨u, h3, h4.keep (fun b hb => hg.block b hb.2.1 (fun e => hb.2.2.2.1 e.symm)) (fun b hb => ⟨hb.1, by have := hb.2.1; simpa [World.setCell] using this, hb.2.2⟩)⟩

theorem OM.topStk {g cap L x : Nat} (h : OM N (.slice (some ⟨g, 0, none⟩) L cap) vw vf vc (x :: stk) wlk fnd cmp wr) : wr.cell? ⟨g, stk.length, none⟩ = some (.int .i64 (x : Int)) := by
  have hL : L = stk.length + 1 := by
    rcases h.stk.2 with ⟨h0, _⟩ | ⟨g', cap', cur, hv, _⟩
    · cases h0
    · cases hv; rfl
  subst hL
  have := h.stk.cellAt stk.length (by simp)
  rw [this]
  simp [enc]

theorem OM.topWlk {g cap L v k : Nat} (h : OM N vs (.slice (some ⟨g, 0, none⟩) L cap) vf vc stk ((v, k) :: wlk) fnd cmp wr) : wr.cell? ⟨g, wlk.length * 2, none⟩ = some (.int .i64 (v : Int)) ∧ wr.cell? ⟨g, wlk.length * 2 + 1, none⟩ = some (.int .i64 (k : Int)) ∧ wr.frozen? ⟨g, wlk.length * 2 + 1, none⟩ = false := by
  have hL : L = wlk.length + 1 := by
    rcases h.wlk.2 with ⟨h0, _⟩ | ⟨g', cap', cur, hv, _⟩
    · cases h0
    · cases hv; rfl
  subst hL
  have hl := cells2_len wlk
  refine ⟨?_, ?_, h.wlk.frozenAt _⟩
  · rw [h.wlk.cellAt (wlk.length * 2) (by simp), cells2_cons, List.getElem?_append_right (by omega), hl, Nat.sub_self]
    rfl
  · rw [h.wlk.cellAt (wlk.length * 2 + 1) (by omega), cells2_cons, List.getElem?_append_right (by omega), hl]
    have : wlk.length * 2 + 1 - wlk.length * 2 = 1 := by omega
    rw [this]
    rfl
end
end Go.Proofs.Qxb6603228a
