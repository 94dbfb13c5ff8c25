/-
  components: what lies in memory while a component is taken off the stack.
-/
import Derived.Test.Qxb6603228aCompB
namespace Go.Proofs.Qxb6603228a
open Go.RowKit Tj

/-- The stack's slice, when it holds something. -/
theorem OM.shapeStk {N x : Nat} {vs vw vf vc : Value} {X : List Nat} {wlk : List (Nat × Nat)} {fnd : List Nat} {cmp : List (List Nat)} {wr : World} (h : OM N vs vw vf vc (x :: X) wlk fnd cmp wr) :
    ∃ g cap, vs = .slice (some ⟨g, 0, none⟩) (X.length + 1) cap ∧ X.length + 1 ≤ cap ∧ N + 9 ≤ g := by
  rcases h.stk.2 with ⟨_, h0⟩ | ⟨g, cap, cur, hv, hg, _, hcap, _⟩
  · simp at h0
  · exact ⟨g, cap, hv, hcap, hg⟩

theorem OM.shapeWlk {N : Nat} {f : Nat × Nat} {vs vw vf vc : Value} {stk : List Nat} {X : List (Nat × Nat)} {fnd : List Nat} {cmp : List (List Nat)} {wr : World} (h : OM N vs vw vf vc stk (f :: X) fnd cmp wr) :
    ∃ g cap, vw = .slice (some ⟨g, 0, none⟩) (X.length + 1) cap ∧ X.length + 1 ≤ cap := by
  rcases h.wlk.2 with ⟨_, h0⟩ | ⟨g, cap, cur, hv, hg, _, hcap, _⟩
  · simp at h0
  · exact ⟨g, cap, hv, hcap⟩

theorem OM.shapeFnd {N : Nat} {vs vw vf vc : Value} {stk : List Nat} {wlk : List (Nat × Nat)} {fnd : List Nat} {cmp : List (List Nat)} {wr : World} (h : OM N vs vw vf vc stk wlk fnd cmp wr) :
    (vf = .slice none 0 0) ∨ ∃ g cap, vf = .slice (some ⟨g, 0, none⟩) fnd.length cap ∧ fnd.length ≤ cap := by
  rcases h.fnd.2 with ⟨h0, _⟩ | ⟨g, cap, cur, hv, hg, _, hcap, _⟩
  · exact .inl h0
  · exact .inr ⟨g, cap, hv, hcap⟩

/-- Three things that hold at once. -/
def M3 (N : Nat) (w : World) (n : Nat) (idx low : Nat → Nat) (cnt : Nat) (vs vw vf vc : Value) (stk : List Nat) (wlk : List (Nat × Nat)) (fnd : List Nat) (cmp : List (List Nat)) (wr : World) : Prop :=
  FM N n idx low (fun i => decide (i ∈ stk)) vs vw cnt wr ∧ OM N vs vw vf vc stk wlk fnd cmp wr ∧ Below N w wr

section
variable {N n : Nat} {w wr : World} {idx low : Nat → Nat} {cnt : Nat} {vs vw vf vc : Value} {X : List Nat} {wlk : List (Nat × Nat)} {fnd : List Nat} {cmp : List (List Nat)}

/-- The top is taken off the stack. -/
theorem M3.pop {g cap x : Nat} (h : M3 N w n idx low cnt (.slice (some ⟨g, 0, none⟩) (X.length + 1) cap) vw vf vc (x :: X) wlk fnd cmp wr) (hx : x ∉ X) :
    M3 N w n idx low cnt (.slice (some ⟨g, 0, none⟩) X.length cap) vw vf vc X wlk fnd cmp ((wr.setCell ⟨N + 6, 0, none⟩ (.slice (some ⟨g, 0, none⟩) X.length cap)).setCell ⟨N + 4, x, none⟩ (.bool false)) := by
  refine ⟨((h.1.setStk (.slice (some ⟨g, 0, none⟩) X.length cap)).setOn x false).congr (fun _ => rfl) (fun _ => rfl) (fun i => ?_), (h.2.1.popStk.set ⟨N + 6, 0, none⟩ (by show N + 6 < N + 9; omega) _).set ⟨N + 4, x, none⟩ (by show N + 4 < N + 9; omega) _,
    (h.2.2.setCell (p := ⟨N + 6, 0, none⟩) (by show N ≤ N + 6; omega) _).setCell (p := ⟨N + 4, x, none⟩) (by show N ≤ N + 4; omega) _⟩
  by_cases e : i = x
  · subst e; rw [upd_same]; exact (decide_eq_false hx).symm
  · rw [upd_other _ _ e]
    simp [e]

/-- .. and laid behind what has been found. -/
theorem M3.found {g cap x : Nat} {o : Obj} {w' : World} (h : M3 N w n idx low cnt vs vw vf vc X wlk fnd cmp wr)
    (hown : w'.ownsRow (N + 9) 3 1 (.slice (some ⟨g, 0, none⟩) (fnd.length + 1) cap) (fnd.length + 1) (fnd.map enc ++ [.int .i64 (x : Int)])) (hg : (wr.alloc o).grownBy w' vf.ownBlock)
    (hblk : vf.ownBlock = some g ∨ (wr.alloc o).heap.size ≤ g) : M3 N w n idx low cnt vs vw (.slice (some ⟨g, 0, none⟩) (fnd.length + 1) cap) vc X wlk (fnd ++ [x]) cmp w' := by
  have hO := h.2.1.alloc o
  have hs := h.2.1.size
  exact ⟨(h.1.keep (World.grownBy_alloc _ _ none) (fun r e => by cases e)).keep hg (fun r e => (hO.fnd.lt r e).1), hO.pushFnd hown hg hblk,
    (h.2.2.alloc (by omega) _).grown hg (by have := hO.size; omega) (fun k e => by have := (hO.fnd.lt k e).1; omega)⟩

theorem Below.asGrown {w w' : World} (h : Below w.heap.size w w') : w.grownBy w' none := ⟨h.os, h.tape, h.output, h.size, fun k hk _ => h.block k hk⟩

/-- Nothing that stands is written. -/
theorem M3.keep {w' : World} (h : M3 N w n idx low cnt vs vw vf vc X wlk fnd cmp wr) (hb : Below wr.heap.size wr w') : M3 N w n idx low cnt vs vw vf vc X wlk fnd cmp w' :=
  ⟨h.1.keep (Below.asGrown hb) (fun r e => by cases e), h.2.1.keep (Below.asGrown hb) (fun r e => by cases e), h.2.2.trans (hb.mono (by have := h.2.1.size; omega))⟩

/-- The values found, as slices.Values reads them. -/
theorem M3.ints {g cap L : Nat} (h : M3 N w n idx low cnt vs vw (.slice (some ⟨g, 0, none⟩) L cap) vc X wlk fnd cmp wr) (hL : L = fnd.length) : It.Ints wr.heap.size wr (.slice (some ⟨g, 0, none⟩) L cap) (castL fnd) := by
  subst hL
  refine .inr ⟨g, 0, cap, by rw [castL_len], (h.2.1.fnd.lt g rfl).2, fun j hj => ?_⟩
  rw [castL_len] at hj
  rw [Nat.zero_add, h.2.1.fnd.cellAt j (by omega)]
  simp [castL, enc, hj]

/-- The growing slices' blocks stand. -/
theorem M3.own (h : M3 N w n idx low cnt vs vw vf vc X wlk fnd cmp wr) : ∀ v' b, (v' = vs ∨ v' = vw ∨ v' = vf ∨ v' = vc) → v'.ownBlock = some b → b < wr.heap.size := by
  obtain ⟨us, h1, _⟩ := h.2.1.cmp
  rintro v' b (rfl | rfl | rfl | rfl) e
  · exact (h.2.1.stk.lt b e).2
  · exact (h.2.1.wlk.lt b e).2
  · exact (h.2.1.fnd.lt b e).2
  · exact (h1.lt b e).2

theorem sort_cast (l : List Nat) : (castL l).mergeSort (fun x y => decide (x ≤ y)) = castL (l.mergeSort (fun a b => decide (a ≤ b))) := by
  unfold castL
  symm
  apply List.map_mergeSort
  intro a _ b _
  simp

/-- What slices.Sorted hands back. -/
theorem newRow_cast {w0 : World} {F : List Nat} {e : Ending} {w' : World} (h : NewRow w0 ((castL F).mergeSort (fun x y => decide (x ≤ y))) e w') :
    ∃ gn cn, e = .returned (.slice (some ⟨gn, 0, none⟩) (F.mergeSort (fun a b => decide (a ≤ b))).length cn) ∧
      w'.ownsRow w0.heap.size 3 1 (.slice (some ⟨gn, 0, none⟩) (F.mergeSort (fun a b => decide (a ≤ b))).length cn) (F.mergeSort (fun a b => decide (a ≤ b))).length ((castL (F.mergeSort (fun a b => decide (a ≤ b)))).map (Value.int .i64)) ∧ Below w0.heap.size w0 w' := by
  rw [sort_cast] at h
  obtain ⟨gn, cn, h1, h2, h3⟩ := h
  rw [castL_len] at h1 h2
  exact ⟨gn, cn, h1, h2, h3⟩

/-- The sorted row is laid behind the components. -/
theorem M3.comp {g cap gn cn : Nat} {o : Obj} {w6 w' : World} {us : List Value} {c : List Nat} {B : Nat} (h : M3 N w n idx low cnt vs vw vf vc X wlk fnd cmp w6)
    (hB : ∀ v' b, (v' = vs ∨ v' = vw ∨ v' = vf ∨ v' = vc) → v'.ownBlock = some b → b < B) (hNB : N + 9 ≤ B)
    (hrow : w6.ownsRow B 3 1 (.slice (some ⟨gn, 0, none⟩) c.length cn) c.length ((castL c).map (Value.int .i64)))
    (hus1 : w6.ownsRow (N + 9) 29 1 vc cmp.length us) (hus2 : ∀ i, i < cmp.length → ∃ u, us[i]? = some u ∧ RowAt w6 (Free N vs vw vf vc w6.heap.size) u (castL (cmp.getD i [])))
    (hown : w'.ownsRow (N + 9) 29 1 (.slice (some ⟨g, 0, none⟩) (cmp.length + 1) cap) (cmp.length + 1) (us ++ [.slice (some ⟨gn, 0, none⟩) c.length cn])) (hg : (w6.alloc o).grownBy w' vc.ownBlock)
    (hblk : vc.ownBlock = some g ∨ (w6.alloc o).heap.size ≤ g) : M3 N w n idx low cnt vs vw vf (.slice (some ⟨g, 0, none⟩) (cmp.length + 1) cap) X wlk fnd (cmp ++ [c]) w' := by
  have hO := h.2.1.alloc o
  have hs := h.2.1.size
  have hcl : ∀ b, vc.ownBlock = some b → N + 9 ≤ b := fun b hb => (hus1.lt b hb).1
  have kr : ∀ {x : Value} {xs : List Int}, RowAt w6 (Free N vs vw vf vc w6.heap.size) x xs → RowAt (w6.alloc o) (Free N vs vw vf vc (w6.alloc o).heap.size) x xs := fun hx =>
    hx.keep (fun b hb => Below.heap_alloc _ _ _ hb.2.1) (fun b hb => ⟨hb.1, by have := hb.2.1; simp; omega, hb.2.2⟩)
  refine ⟨(h.1.keep (World.grownBy_alloc _ _ none) (fun r e => by cases e)).keep hg (fun r e => hcl r e), hO.pushCmp (kr ?_) (fun i hi => ?_) ?_ hown hg hblk,
    (h.2.2.alloc (by omega) _).grown hg (by have := hO.size; omega) (fun k e => by have := hcl k e; omega)⟩
  · have hg2 : B ≤ gn ∧ gn < w6.heap.size := hrow.lt gn rfl
    refine ⟨some ⟨gn, 0, none⟩, cn, by rw [castL_len], fun h0 => ⟨gn, 0, rfl, ⟨by omega, hg2.2, ?_, ?_, ?_, ?_⟩, fun j hj => ?_⟩⟩
    · intro e; have := hB vs gn (.inl rfl) e; omega
    · intro e; have := hB vw gn (.inr (.inl rfl)) e; omega
    · intro e; have := hB vf gn (.inr (.inr (.inl rfl))) e; omega
    · intro e; have := hB vc gn (.inr (.inr (.inr rfl))) e; omega
    · rw [castL_len] at hj
      rw [Nat.zero_add, hrow.cellAt j (by omega)]
      simp [castL, hj]
  · obtain ⟨u, h3, h4⟩ := hus2 i hi
    exact ⟨u, h3, kr h4⟩
  · have := hus1.1
    omega
end

/-- What holds at the head of the third loop. -/
def Rel3 (N : Nat) (w : World) (n : Nat) (s : St) (v : Nat) (rest : List (Nat × Nat)) (S stk' : List Nat) (vw vc : Value) (k : Nat) (vf : Value) (wq : World) : Prop :=
  ∃ S1 S2 vs, S = S1 ++ S2 ∧ k = S2.length ∧ M3 N w n s.idx (lift s v rest) s.cnt vs vw vf vc (S2 ++ v :: stk') rest S1 s.cmp wq
end Go.Proofs.Qxb6603228a
