/-
  modelCycles, walked: the expected classes.
-/
import Derived.Test.Qxb6603228aReach
namespace Go.Proofs.Qxb6603228a
open Go.RowKit Tj

/-- A square of marks. -/
structure BoolsAt (w : World) (B r0 n : Nat) (R : Nat → Nat → Bool) : Prop where
  lt : r0 < B
  row : ∃ F : Nat → Value, w.rowIs r0 31 n F ∧ ∀ i, i < n → ∃ b : Nat, F i = .slice (some ⟨b, 0, none⟩) n n ∧ b < B ∧ w.rowIs b 4 n (fun v => .bool (R i v))

theorem BoolsAt.below {w w' : World} {B B' r0 n : Nat} {R : Nat → Nat → Bool} (h : BoolsAt w B r0 n R) (hb : Below B w w') (hB : B ≤ B') : BoolsAt w' B' r0 n R := by
  obtain ⟨hlt, F, hF, hrows⟩ := h
  refine ⟨by omega, F, hF.of_block (hb.block _ hlt), fun i hi => ?_⟩
  obtain ⟨b, h1, h2, h3⟩ := hrows i hi
  exact ⟨b, h1, by omega, h3.of_block (hb.block _ h2)⟩

theorem choose_rows {n : Nat} {P : Nat → (Nat → Bool) → Prop} (h : ∀ i, i < n → ∃ f, P i f) : ∃ R : Nat → Nat → Bool, ∀ i, i < n → P i (R i) :=
  ⟨fun i => if hi : i < n then Classical.choose (h i hi) else fun _ => false, fun i hi => by show P i (if hi : i < n then Classical.choose (h i hi) else fun _ => false); rw [dif_pos hi]; exact Classical.choose_spec (h i hi)⟩

/-- Out of reachAll's contract. -/
theorem Reached.bools {A : Nat → List Nat} {w w' : World} {n : Nat} {e : Ending} (h : Reached A w n e w') : ∃ R : Nat → Nat → Bool, BoolsAt w' w'.heap.size w.heap.size n R ∧ ∀ i, i < n → ∀ x, R i x = true ↔ Tj.Reach A i x := by
  obtain ⟨_, _, F, hF, hrows⟩ := h
  obtain ⟨R, hR⟩ := choose_rows (P := fun i f => ∃ b : Nat, F i = .slice (some ⟨b, 0, none⟩) n n ∧ w'.rowIs b 4 n (fun v => .bool (f v)) ∧ ∀ x, f x = true ↔ Tj.Reach A i x) (fun i hi => by
    obtain ⟨b, f, h1, _, h3, h4⟩ := hrows i hi
    exact ⟨f, b, h1, h3, h4⟩)
  refine ⟨R, ⟨hF.lt, F, hF, fun i hi => ?_⟩, fun i hi => ?_⟩
  · obtain ⟨b, h1, h2, _⟩ := hR i hi
    exact ⟨b, h1, h2.lt, h2⟩
  · obtain ⟨_, _, _, h3⟩ := hR i hi
    exact h3

def castL (c : List Nat) : List Int := c.map (fun x : Nat => (x : Int))
theorem castL_len (c : List Nat) : (castL c).length = c.length := by simp [castL]
theorem castL_at (c : List Nat) (j : Nat) : (castL c).getD j 0 = ((c.getD j 0 : Nat) : Int) := by
  simp only [castL, List.getD_eq_getElem?_getD, List.getElem?_map]
  cases c[j]? <;> simp

/-- The list of lists that the call is building: its outer row, and rows in other blocks below T. -/
structure RM (w : World) (W : List (List Nat)) (vr : Value) (T : Nat) (wr : World) : Prop where
  own : ∃ us : List Value, wr.ownsRow w.heap.size 29 1 vr W.length us ∧ ∀ i, i < W.length → ∃ u, us[i]? = some u ∧ RowAt wr (fun b => w.heap.size ≤ b ∧ b < T ∧ vr.ownBlock ≠ some b) u (castL (W.getD i []))
  blk : ∀ g, vr.ownBlock = some g → g < T
  below : Below w.heap.size w wr
  size : T ≤ wr.heap.size
  base : w.heap.size ≤ T

theorem RM.start (w : World) : RM w [] (.slice none 0 0) w.heap.size w :=
  ⟨⟨[], World.ownsRow_nil _ _ _ _, fun i hi => by simp at hi⟩, fun g hg => by simp [Value.ownBlock] at hg, Below.refl _ _, Nat.le_refl _, Nat.le_refl _⟩

theorem RM.keep {w wr w' : World} {W : List (List Nat)} {vr : Value} {T : Nat} {row : Option Nat} (h : RM w W vr T wr) (hg : wr.grownBy w' row) (hr : ∀ k, row = some k → T ≤ k) : RM w W vr T w' := by
  obtain ⟨us, h1, h2⟩ := h.own
  have hb := h.base
  refine ⟨⟨us, h1.kept hg ?_, fun i hi => ?_⟩, h.blk, h.below.grown hg h.below.size (fun k e => by have := hr k e; omega), Nat.le_trans h.size hg.size, hb⟩
  · cases hv : vr.ownBlock with
    | none => exact .inl rfl
    | some g => exact .inr (fun e => by have := hr g e.symm; have := h.blk g hv; omega)
  · obtain ⟨u, h3, h4⟩ := h2 i hi
    exact ⟨u, h3, h4.keep (fun b hb' => hg.block b (by have := h.size; omega) (fun e => by have := hr b e.symm; omega)) (fun _ hb' => hb')⟩

/-- The bound may be raised. -/
theorem RM.raise {w wr : World} {W : List (List Nat)} {vr : Value} {T : Nat} (h : RM w W vr T wr) : RM w W vr wr.heap.size wr := by
  obtain ⟨us, h1, h2⟩ := h.own
  refine ⟨⟨us, h1, fun i hi => ?_⟩, fun g hg => (h1.lt g hg).2, h.below, Nat.le_refl _, h.below.size⟩
  obtain ⟨u, h3, h4⟩ := h2 i hi
  exact ⟨u, h3, h4.keep (fun _ _ => rfl) (fun b hb' => ⟨hb'.1, Nat.lt_of_lt_of_le hb'.2.1 h.size, hb'.2.2⟩)⟩

/-- A row is put behind the others. -/
theorem RM.push {w wr w' : World} {W : List (List Nat)} {vr u : Value} {T g cap : Nat} {c : List Nat} (h : RM w W vr T wr) (hu : RowAt wr (fun b => T ≤ b ∧ b < wr.heap.size) u (castL c)) {us : List Value}
    (hus : ∀ i, i < W.length → ∃ u, us[i]? = some u ∧ RowAt wr (fun b => w.heap.size ≤ b ∧ b < T ∧ vr.ownBlock ≠ some b) u (castL (W.getD i []))) (hlen : us.length = W.length)
    (hown : w'.ownsRow w.heap.size 29 1 (.slice (some ⟨g, 0, none⟩) (W.length + 1) cap) (W.length + 1) (us ++ [u])) (hg : (wr.alloc (.cells #[u] 29)).grownBy w' vr.ownBlock)
    (hblk : vr.ownBlock = some g ∨ wr.heap.size + 1 ≤ g) : RM w (W ++ [c]) (.slice (some ⟨g, 0, none⟩) (W.length + 1) cap) w'.heap.size w' := by
  have hb := h.base
  have hs := h.size
  have hsz : wr.heap.size + 1 ≤ w'.heap.size := by have := hg.size; simpa using this
  have kp : ∀ b, b < wr.heap.size → vr.ownBlock ≠ some b → w'.heap[b]? = wr.heap[b]? := fun b hb' hne => (hg.block b (by simp; omega) (fun e => hne e.symm)).trans (Below.heap_alloc _ _ _ hb')
  have ne : ∀ b, b < wr.heap.size → vr.ownBlock ≠ some b → (Value.slice (some ⟨g, 0, none⟩) (W.length + 1) cap).ownBlock ≠ some b := fun b hb' hne e => by
    simp [Value.ownBlock] at e
    subst e
    rcases hblk with h1 | h1
    · exact hne h1
    · omega
  have nv : ∀ b, T ≤ b → vr.ownBlock ≠ some b := fun b hT e => by have := h.blk b e; omega
  refine ⟨⟨us ++ [u], by simpa using hown, fun i hi => ?_⟩, fun g' hg' => (hown.lt g' hg').2, ?_, Nat.le_refl _, by omega⟩
  · by_cases e : i < W.length
    · obtain ⟨x, h3, h4⟩ := hus i e
      refine ⟨x, by rw [List.getElem?_append_left (by omega)]; exact h3, ?_⟩
      have e2 : (W ++ [c]).getD i [] = W.getD i [] := by simp [List.getD_eq_getElem?_getD, List.getElem?_append_left e]
      rw [e2]
      exact h4.keep (fun b hb' => kp b (by omega) hb'.2.2) (fun b hb' => ⟨hb'.1, by omega, ne b (by omega) hb'.2.2⟩)
    · have ei : i = W.length := by simp at hi; omega
      subst ei
      refine ⟨u, by rw [List.getElem?_append_right (by omega), hlen]; simp, ?_⟩
      have e2 : (W ++ [c]).getD W.length [] = c := by simp [List.getD_eq_getElem?_getD]
      rw [e2]
      exact hu.keep (fun b hb' => kp b hb'.2 (nv b hb'.1)) (fun b hb' => ⟨by omega, by omega, ne b hb'.2 (nv b hb'.1)⟩)
  · refine (h.below.alloc h.below.size _).grown hg (by simp; omega) (fun k e => ?_)
    obtain ⟨us0, h1, _⟩ := h.own
    exact (h1.lt k e).1

/-- Read as rows. -/
theorem RM.rows {w wr : World} {W : List (List Nat)} {vr : Value} {T : Nat} (h : RM w W vr T wr) : RowsAt wr (Lt wr.heap.size) vr (W.map castL) := by
  obtain ⟨us, h1, h2⟩ := h.own
  rcases h1.2 with ⟨rfl, h0⟩ | ⟨g, cap, cur, rfl, hb, hh, _⟩
  · exact ⟨none, 0, by rw [List.length_map, h0], fun hp => by rw [List.length_map] at hp; omega⟩
  · refine ⟨some ⟨g, 0, none⟩, cap, by rw [List.length_map], fun _ => ⟨g, 0, rfl, (Array.getElem?_eq_some_iff.1 hh).1, fun r hr => ?_⟩⟩
    rw [List.length_map] at hr
    obtain ⟨u, h3, h4⟩ := h2 r hr
    refine ⟨u, ?_, ?_⟩
    · rw [Nat.zero_add, h1.cellAt r (by omega)]; exact h3
    · have e : (W.map castL).getD r [] = castL (W.getD r []) := by
        simp only [List.getD_eq_getElem?_getD, List.getElem?_map]
        cases W[r]? <;> simp [castL]
      rw [e]
      exact h4.keep (fun _ _ => rfl) (fun b hb' => Nat.lt_of_lt_of_le hb'.2.1 h.size)
end Go.Proofs.Qxb6603228a
