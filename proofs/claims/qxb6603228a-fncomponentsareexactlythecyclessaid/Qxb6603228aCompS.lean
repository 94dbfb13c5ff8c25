/-
  components: the state and its memory; what each step does to both.
-/
import Derived.Test.Qxb6603228aVisit
import Derived.Test.Qxb6603228aSorted
namespace Go.Proofs.Qxb6603228a
open Go.RowKit Tj

/-- The rows of edges: 4 cells an edge; the second is the node that it leads to. -/
def OutAt (w : World) (S : Nat → Prop) (v : Value) (A : Nat → List Nat) (n : Nat) : Prop :=
  ∃ a cap, v = .slice a n cap ∧ (0 < n → ∃ b off, a = some ⟨b, off, none⟩ ∧ S b ∧ ∀ u, u < n → ∃ au cu, w.cell? ⟨b, off + u, none⟩ = some (.slice au (A u).length cu) ∧
    (0 < (A u).length → ∃ b2 off2, au = some ⟨b2, off2, none⟩ ∧ S b2 ∧ ∀ k, k < (A u).length → w.cell? ⟨b2, off2 + k * 4 + 1, none⟩ = some (.int .i64 ((A u).getD k 0 : Nat))))

structure CM (N : Nat) (w : World) (n : Nat) (s : St) (vs vw vf vc : Value) (fnd : List Nat) (wr : World) : Prop where
  fm : FM N n s.idx s.low (fun i => decide (i ∈ s.stk)) vs vw s.cnt wr
  om : OM N vs vw vf vc s.stk s.wlk fnd s.cmp wr
  below : Below N w wr

/-- The world in which the loops begin. -/
theorem CM.init (w : World) (n : Nat) : CM w.heap.size w n St.init (.slice none 0 0) (.slice none 0 0) (.slice none 0 0) (.slice none 0 0) []
    (((((((((w.alloc (.cells (madeCells #[.int .i64 0] n) 3)).alloc (.cells #[.slice (some ⟨w.heap.size, 0, none⟩) n n] 29)).alloc (.cells (madeCells #[.int .i64 0] n) 3)).alloc (.cells #[.slice (some ⟨w.heap.size + 2, 0, none⟩) n n] 29)).alloc
      (.cells (madeCells #[.bool false] n) 4)).alloc (.cells #[.slice (some ⟨w.heap.size + 4, 0, none⟩) n n] 31)).alloc (.cells #[.slice none 0 0] 29)).alloc (.cells #[.slice none 0 0] 73)).alloc (.cells #[.int .i64 0] 3)) := by
  have hbel : Below w.heap.size w (((((((((w.alloc (.cells (madeCells #[.int .i64 0] n) 3)).alloc (.cells #[.slice (some ⟨w.heap.size, 0, none⟩) n n] 29)).alloc (.cells (madeCells #[.int .i64 0] n) 3)).alloc (.cells #[.slice (some ⟨w.heap.size + 2, 0, none⟩) n n] 29)).alloc
      (.cells (madeCells #[.bool false] n) 4)).alloc (.cells #[.slice (some ⟨w.heap.size + 4, 0, none⟩) n n] 31)).alloc (.cells #[.slice none 0 0] 29)).alloc (.cells #[.slice none 0 0] 73)).alloc (.cells #[.int .i64 0] 3)) :=
    (((((((((Below.refl _ w).alloc (Nat.le_refl _) _).alloc (by simp) _).alloc (by simp; omega) _).alloc (by simp; omega) _).alloc (by simp; omega) _).alloc (by simp; omega) _).alloc (by simp; omega) _).alloc (by simp; omega) _).alloc (by simp; omega) _
  refine ⟨⟨?_, ?_, ?_, ?_, ?_, ?_, ?_, ?_, ?_⟩, ⟨World.ownsRow_nil _ _ _ _, World.ownsRow_nil _ _ _ _, World.ownsRow_nil _ _ _ _, fun b hb => by simp [Value.ownBlock] at hb, ⟨[], World.ownsRow_nil _ _ _ _, fun i hi => by simp [St.init] at hi⟩, by simp⟩, hbel⟩
  · exact (((((((((World.rowIs_made w (.int .i64 0) n 3).alloc _).alloc _).alloc _).alloc _).alloc _).alloc _).alloc _).alloc _)
  · have := Boxed.new (w.alloc (.cells (madeCells #[.int .i64 0] n) 3)) 29 (.slice (some ⟨w.heap.size, 0, none⟩) n n)
    simp only [World.size_alloc] at this
    exact ((((((this.alloc _).alloc _).alloc _).alloc _).alloc _).alloc _).alloc _
  · have := World.rowIs_made ((w.alloc (.cells (madeCells #[.int .i64 0] n) 3)).alloc (.cells #[.slice (some ⟨w.heap.size, 0, none⟩) n n] 29)) (.int .i64 0) n 3
    simp only [World.size_alloc] at this
    exact (((((this.alloc _).alloc _).alloc _).alloc _).alloc _).alloc _
  · have := Boxed.new (((w.alloc (.cells (madeCells #[.int .i64 0] n) 3)).alloc (.cells #[.slice (some ⟨w.heap.size, 0, none⟩) n n] 29)).alloc (.cells (madeCells #[.int .i64 0] n) 3)) 29 (.slice (some ⟨w.heap.size + 2, 0, none⟩) n n)
    simp only [World.size_alloc] at this
    exact ((((this.alloc _).alloc _).alloc _).alloc _).alloc _
  · have := World.rowIs_made ((((w.alloc (.cells (madeCells #[.int .i64 0] n) 3)).alloc (.cells #[.slice (some ⟨w.heap.size, 0, none⟩) n n] 29)).alloc (.cells (madeCells #[.int .i64 0] n) 3)).alloc (.cells #[.slice (some ⟨w.heap.size + 2, 0, none⟩) n n] 29)) (.bool false) n 4
    simp only [World.size_alloc] at this
    exact ((((this.alloc _).alloc _).alloc _).alloc _).congr (fun i _ => by simp [St.init])
  · have := Boxed.new (((((w.alloc (.cells (madeCells #[.int .i64 0] n) 3)).alloc (.cells #[.slice (some ⟨w.heap.size, 0, none⟩) n n] 29)).alloc (.cells (madeCells #[.int .i64 0] n) 3)).alloc (.cells #[.slice (some ⟨w.heap.size + 2, 0, none⟩) n n] 29)).alloc (.cells (madeCells #[.bool false] n) 4)) 31 (.slice (some ⟨w.heap.size + 4, 0, none⟩) n n)
    simp only [World.size_alloc] at this
    exact ((this.alloc _).alloc _).alloc _
  · have := Boxed.new ((((((w.alloc (.cells (madeCells #[.int .i64 0] n) 3)).alloc (.cells #[.slice (some ⟨w.heap.size, 0, none⟩) n n] 29)).alloc (.cells (madeCells #[.int .i64 0] n) 3)).alloc (.cells #[.slice (some ⟨w.heap.size + 2, 0, none⟩) n n] 29)).alloc (.cells (madeCells #[.bool false] n) 4)).alloc (.cells #[.slice (some ⟨w.heap.size + 4, 0, none⟩) n n] 31)) 29 (.slice none 0 0)
    simp only [World.size_alloc] at this
    exact (this.alloc _).alloc _
  · have := Boxed.new (((((((w.alloc (.cells (madeCells #[.int .i64 0] n) 3)).alloc (.cells #[.slice (some ⟨w.heap.size, 0, none⟩) n n] 29)).alloc (.cells (madeCells #[.int .i64 0] n) 3)).alloc (.cells #[.slice (some ⟨w.heap.size + 2, 0, none⟩) n n] 29)).alloc (.cells (madeCells #[.bool false] n) 4)).alloc (.cells #[.slice (some ⟨w.heap.size + 4, 0, none⟩) n n] 31)).alloc (.cells #[.slice none 0 0] 29)) 73 (.slice none 0 0)
    simp only [World.size_alloc] at this
    exact this.alloc _
  · have := Boxed.new ((((((((w.alloc (.cells (madeCells #[.int .i64 0] n) 3)).alloc (.cells #[.slice (some ⟨w.heap.size, 0, none⟩) n n] 29)).alloc (.cells (madeCells #[.int .i64 0] n) 3)).alloc (.cells #[.slice (some ⟨w.heap.size + 2, 0, none⟩) n n] 29)).alloc (.cells (madeCells #[.bool false] n) 4)).alloc (.cells #[.slice (some ⟨w.heap.size + 4, 0, none⟩) n n] 31)).alloc (.cells #[.slice none 0 0] 29)).alloc (.cells #[.slice none 0 0] 73)) 3 (.int .i64 0)
    simp only [World.size_alloc] at this
    exact this

theorem FM.congr {N n : Nat} {idx idx' low low' : Nat → Nat} {on on' : Nat → Bool} {vs vw : Value} {cnt : Nat} {wr : World} (h : FM N n idx low on vs vw cnt wr) (h1 : ∀ i, idx i = idx' i) (h2 : ∀ i, low i = low' i) (h3 : ∀ i, on i = on' i) : FM N n idx' low' on' vs vw cnt wr :=
  ⟨h.idx.congr (fun i _ => by rw [h1 i]), h.bidx, h.low.congr (fun i _ => by rw [h2 i]), h.blow, h.on.congr (fun i _ => by rw [h3 i]), h.bon, h.bstk, h.bwlk, h.bcnt⟩

/-- Behind a visit: the frames below have been advanced ahead of it. -/
theorem CM.visited {N n t : Nat} {w wr w' : World} {s : St} {vf vc : Value} {fnd : List Nat} {e : Ending} (hb : Below N w wr) (h : Visited N n s.idx s.low (fun i => decide (i ∈ s.stk)) s.cnt vf vc s.stk (adv s.wlk) fnd s.cmp t wr e w') :
    ∃ g c g' c', CM N w n (visit s t) (.slice (some ⟨g, 0, none⟩) (s.stk.length + 1) c) (.slice (some ⟨g', 0, none⟩) ((adv s.wlk).length + 1) c') vf vc fnd w' := by
  obtain ⟨_, g, c, g', c', h1, h2, h3⟩ := h
  refine ⟨g, c, g', c', ?_, h2, hb.trans h3⟩
  exact h1.congr (fun _ => rfl) (fun _ => rfl) (fun i => by
    show upd (fun i => decide (i ∈ s.stk)) t true i = decide (i ∈ t :: s.stk)
    by_cases e : i = t
    · subst e; simp [upd]
    · simp [upd, e])
end Go.Proofs.Qxb6603228a
