/-
  The law: what she knows of the two answers that she compares, and of the order that she sorts.
-/
import Derived.Test.Qxb6603228aZZ
import Derived.Test.Qxb6603228aWell
import Derived.Test.Qxb6603228aModelW
import Derived.Test.Qxb6603228aCopy
namespace Go.Proofs.Qxb6603228a
open Go.RowKit Tj

/-- As many components as the model has. -/
theorem comps_len {A : Nat → List Nat} {n : Nat} {M : Nat → Nat → Bool} {C : List (List Nat)} (h : CompsOK A n C) (hM : ∀ u v, u < n → v < n → (M u v = true ↔ Mut A u v)) : C.length = (want n M n).length := by
  have hp := List.mergeSort_perm C (fun c d => decide (c.headD 0 ≤ d.headD 0))
  have hs : (C.mergeSort (fun c d => decide (c.headD 0 ≤ d.headD 0))).Pairwise (fun c d => c.headD 0 ≤ d.headD 0) := by
    have := List.pairwise_mergeSort (le := fun c d : List Nat => decide (c.headD 0 ≤ d.headD 0)) (fun a b c h1 h2 => by simp only [decide_eq_true_eq] at *; omega) (fun a b => by simp only [Bool.or_eq_true, decide_eq_true_eq]; omega) C
    exact this.imp (fun {a b} hab => by simpa using hab)
  rw [← sorted_eq_want h hM hp hs, hp.length_eq]

theorem want_len (n : Nat) (M : Nat → Nat → Bool) : (want n M n).length ≤ n := by
  unfold want
  rw [List.length_map]
  exact Nat.le_trans (List.length_filter_le _ _) (by simp)

theorem comp_small {A : Nat → List Nat} {n : Nat} {C : List (List Nat)} (h : CompsOK A n C) {c : List Nat} (hc : c ∈ C) : c.length ≤ n :=
  nodup_len ((h.one c hc).1.imp (fun {a b} hab e => by omega)) (fun x hx => ((h.one c hc).2.2 x hx).1)

theorem getD_mem {α : Type} {l : List α} {i : Nat} {d : α} (h : i < l.length) : l.getD i d ∈ l := by
  rw [List.getD_eq_getElem?_getD, List.getElem?_eq_getElem h]
  exact List.getElem_mem h

theorem map_castL_at (C : List (List Nat)) (i : Nat) : (C.map castL).getD i [] = castL (C.getD i []) := by
  simp only [List.getD_eq_getElem?_getD, List.getElem?_map]
  cases C[i]? <;> simp [castL]

theorem wellF_of {A : Nat → List Nat} {n : Nat} {C : List (List Nat)} (h : CompsOK A n C) (hn : n ≤ 4096) : WellF (C.map castL) n := by
  intro i hi
  rw [List.length_map] at hi
  have hm : C.getD i [] ∈ C := getD_mem hi
  have h1 := h.one _ hm
  have h2 := comp_small h hm
  rw [map_castL_at, castL_len]
  refine ⟨h1.2.1, by omega, fun j hj => ?_⟩
  rw [castL_at, castL_at]
  have h3 := h1.2.2 _ (getD_mem (d := 0) hj)
  refine ⟨⟨by omega, by omega⟩, fun h0 => ?_⟩
  have h4 := List.pairwise_iff_getElem.1 h1.1 (j - 1) j (by omega) hj (by omega)
  have e1 : (C.getD i []).getD (j - 1) 0 = (C.getD i [])[j - 1] := by rw [List.getD_eq_getElem?_getD, List.getElem?_eq_getElem (by omega)]; rfl
  have e2 : (C.getD i []).getD j 0 = (C.getD i [])[j] := by rw [List.getD_eq_getElem?_getD, List.getElem?_eq_getElem hj]; rfl
  rw [e1, e2]
  omega

/-- The key by which the order is sorted. -/
def key (C : List (List Nat)) (p : Nat) : Nat := (C.getD p []).headD 0

/-- The component at p, as the law reads it. -/
theorem got_at {w : World} {B m cap p : Nat} {a : Option Addr} {C : List (List Nat)} (h : RowsAt w (Lt B) (.slice a m cap) (C.map castL)) (hC : ∀ c ∈ C, 2 ≤ c.length) (hp : p < C.length) :
    ∃ b off bp offp L cp, a = some ⟨b, off, none⟩ ∧ b < B ∧ bp < B ∧ w.cell? ⟨b, off + p, none⟩ = some (.slice (some ⟨bp, offp, none⟩) L cp) ∧ 2 ≤ L ∧ w.cell? ⟨bp, offp, none⟩ = some (.int .i64 (key C p : Nat)) ∧ RowAt w (Lt B) (.slice (some ⟨bp, offp, none⟩) L cp) (castL (C.getD p [])) := by
  obtain ⟨a', cap', e, hr⟩ := h
  cases e
  rw [List.length_map] at hr
  obtain ⟨b, off, ha, hb, hrows⟩ := hr (by omega)
  obtain ⟨u, hu, hur⟩ := hrows p hp
  rw [map_castL_at] at hur
  have h2 := hC _ (getD_mem (d := []) hp)
  have hur' := hur
  obtain ⟨au, cu, rfl, hcells⟩ := hur
  rw [castL_len] at hcells
  obtain ⟨bp, offp, rfl, hbp, hc⟩ := hcells (by omega)
  have h0 := hc 0 (by omega)
  rw [castL_at] at h0
  refine ⟨b, off, bp, offp, _, cu, ha, hb, hbp, hu, by rw [castL_len]; exact h2, ?_, hur'⟩
  rw [Nat.add_zero] at h0
  rw [h0]
  have e : (C.getD p []).getD 0 0 = key C p := by
    unfold key
    cases C.getD p [] <;> rfl
  rw [e]

/-- The order's row. -/
structure Ord (w5 : World) (m : Nat) (o : List Nat) (wr : World) : Prop where
  row : wr.rowIs w5.heap.size 3 m (fun i => enc (o.getD i 0))
  below : Below w5.heap.size w5 wr
  perm : o.Perm (List.range m)

theorem Ord.len {w5 wr : World} {m : Nat} {o : List Nat} (h : Ord w5 m o wr) : o.length = m := by
  have := h.perm.length_eq
  simpa using this

theorem Ord.lt {w5 wr : World} {m i : Nat} {o : List Nat} (h : Ord w5 m o wr) (hi : i < m) : o.getD i 0 < m := by
  have h1 : o.getD i 0 ∈ o := getD_mem (by rw [h.len]; exact hi)
  have := (h.perm.mem_iff).1 h1
  simpa using this

theorem Ord.drewN {w5 wr : World} {m : Nat} {o : List Nat} (h : Ord w5 m o wr) (k : Nat) : Ord w5 m o (wr.drewN k) :=
  ⟨h.row, ⟨h.below.os, h.below.tape, h.below.output, h.below.size, h.below.block⟩, h.perm⟩

/-- Two neighbours change places. -/
theorem Ord.swap {w5 wr : World} {m k x y : Nat} {o : List Nat} (h : Ord w5 m o wr) (h0 : 0 < k) (hk : k < m) (hx : x = o.getD (k - 1) 0) (hy : y = o.getD k 0) :
    Ord w5 m (swapAt o k) ((wr.setCell ⟨w5.heap.size, k - 1, none⟩ (.int .i64 (y : Int))).setCell ⟨w5.heap.size, k, none⟩ (.int .i64 (x : Int))) := by
  have hl := h.len
  refine ⟨((h.row.set (k - 1) (.int .i64 (y : Int))).set k (.int .i64 (x : Int))).congr (fun i hi => ?_), (h.below.setCell (Nat.le_refl _) _).setCell (Nat.le_refl _) _, (swapAt_perm h0 (by omega)).trans h.perm⟩
  rw [swapAt_getD h0 (by omega)]
  by_cases e : i = k
  · rw [if_pos e, if_pos e, hx]; rfl
  · rw [if_neg e, if_neg e]
    by_cases e2 : i = k - 1
    · rw [if_pos e2, if_pos e2, hy]; rfl
    · rw [if_neg e2, if_neg e2]

/-- The order in the making. -/
def Ordering (w5 : World) (m i : Nat) (wr : World) : Prop :=
  ∃ f : Nat → Value, wr.rowIs w5.heap.size 3 m f ∧ (∀ j, j < i → f j = .int .i64 (j : Int)) ∧ Below w5.heap.size w5 wr

theorem Ordering.start (w5 : World) (m : Nat) : Ordering w5 m 0 (w5.alloc (.cells (madeCells #[.int .i64 0] m) 3)) :=
  ⟨_, World.rowIs_made _ _ _ _, fun j hj => by omega, (Below.refl _ _).alloc (Nat.le_refl _) _⟩

theorem Ordering.step {w5 wr : World} {m i : Nat} (h : Ordering w5 m i wr) : Ordering w5 m (i + 1) (wr.setCell ⟨w5.heap.size, i, none⟩ (.int .i64 (i : Int))) := by
  obtain ⟨f, hf, hj, hb⟩ := h
  refine ⟨_, hf.set i _, fun j hji => ?_, hb.setCell (Nat.le_refl _) _⟩
  show (if j = i then _ else f j) = _
  by_cases e : j = i
  · rw [if_pos e, e]
  · rw [if_neg e]; exact hj j (by omega)

theorem Ordering.done {w5 wr : World} {m i : Nat} (h : Ordering w5 m i wr) (hi : m ≤ i) : Ord w5 m (List.range m) wr := by
  obtain ⟨f, hf, hj, hb⟩ := h
  refine ⟨hf.congr (fun j hjm => ?_), hb, List.Perm.refl _⟩
  rw [hj j (by omega)]
  have e : (List.range m).getD j 0 = j := by rw [List.getD_eq_getElem?_getD, List.getElem?_range hjm]; rfl
  rw [e]
  rfl

/-- Sorted up to i. -/
def SortedTo (C : List (List Nat)) (o : List Nat) (i : Nat) : Prop := ∀ a b, a < b → b < i → key C (o.getD a 0) ≤ key C (o.getD b 0)

/-- What the law hands back. -/
def Held (w : World) (e : Ending) (w' : World) : Prop := e = .returned (.bool true) ∧ Below w.heap.size w w'
end Go.Proofs.Qxb6603228a
