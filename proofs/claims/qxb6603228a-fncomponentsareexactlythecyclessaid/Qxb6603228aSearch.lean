/-
  PLAIN MATHEMATICS: the model's search out of one node; the classes, one node after the other.
-/
import Derived.Test.Qxb6603228aPlain
namespace Go.Proofs.Qxb6603228a.Tj

/-- Between two rounds of the search out of r. -/
structure ROut (A : Nat → List Nat) (n r : Nat) (seen : Nat → Bool) (stk : List Nat) : Prop where
  root : seen r = true
  sound : ∀ x, seen x = true → x < n ∧ Reach A r x
  onst : ∀ x ∈ stk, seen x = true
  closed : ∀ x, seen x = true → x ∉ stk → ∀ y ∈ A x, seen y = true
  size : left seen n + stk.length ≤ n

/-- In a round: u has been taken, j of its edges have been followed; K bounds what is left. -/
structure RIn (A : Nat → List Nat) (n r : Nat) (seen : Nat → Bool) (stk : List Nat) (u j K : Nat) : Prop where
  root : seen r = true
  sound : ∀ x, seen x = true → x < n ∧ Reach A r x
  onst : ∀ x ∈ stk, seen x = true
  here : seen u = true
  closed : ∀ x, seen x = true → x ∉ stk → x ≠ u → ∀ y ∈ A x, seen y = true
  done : ∀ y ∈ (A u).take j, seen y = true
  size : left seen n + stk.length ≤ K

theorem rout_start {A : Nat → List Nat} {n r : Nat} (h : r < n) : ROut A n r (upd (fun _ => false) r true) [r] := by
  refine ⟨upd_same _ _ _, fun x hx => ?_, fun x hx => ?_, fun x hx hn => ?_, ?_⟩
  · by_cases e : x = r
    · subst e; exact ⟨h, Reach.refl _ _⟩
    · rw [upd_other _ _ e] at hx; cases hx
  · simp at hx; subst hx; exact upd_same _ _ _
  · by_cases e : x = r
    · subst e; exact absurd List.mem_cons_self hn
    · rw [upd_other _ _ e] at hx; cases hx
  · have h1 := left_in (seen := fun _ => false) (t := r) rfl h
    rw [left_all] at h1
    simp; omega

theorem rin_start {A : Nat → List Nat} {n r : Nat} {seen : Nat → Bool} {stk : List Nat} {u : Nat} (h : ROut A n r seen (u :: stk)) : RIn A n r seen stk u 0 (left seen n + stk.length) :=
  ⟨h.root, h.sound, fun x hx => h.onst x (List.mem_cons_of_mem _ hx), h.onst u List.mem_cons_self, fun x hx hn hu => h.closed x hx (fun hm => by
    rcases List.mem_cons.1 hm with e | hm
    · exact hu e
    · exact hn hm), fun y hy => by simp at hy, Nat.le_refl _⟩

theorem rin_skip {A : Nat → List Nat} {n r : Nat} {seen : Nat → Bool} {stk : List Nat} {u j K v : Nat} (h : RIn A n r seen stk u j K) (hv : (A u)[j]? = some v) (hs : seen v = true) : RIn A n r seen stk u (j + 1) K :=
  ⟨h.root, h.sound, h.onst, h.here, h.closed, fun y hy => by
    rw [List.take_add_one, List.mem_append] at hy
    rcases hy with hy | hy
    · exact h.done y hy
    · rw [hv] at hy; simp at hy; rw [hy]; exact hs, h.size⟩

theorem rin_push {A : Nat → List Nat} {n r : Nat} {seen : Nat → Bool} {stk : List Nat} {u j K v : Nat} (h : RIn A n r seen stk u j K) (hv : (A u)[j]? = some v) (hs : seen v = false) (hn : v < n) : RIn A n r (upd seen v true) (v :: stk) u (j + 1) K := by
  have up : ∀ x, seen x = true → upd seen v true x = true := fun x hx => by
    by_cases e : x = v
    · subst e; exact upd_same _ _ _
    · rw [upd_other _ _ e]; exact hx
  have dn : ∀ x, x ≠ v → upd seen v true x = true → seen x = true := fun x e hx => by rw [upd_other _ _ e] at hx; exact hx
  refine ⟨up r h.root, fun x hx => ?_, fun x hx => ?_, up u h.here, fun x hx hm hu y hy => ?_, fun y hy => ?_, ?_⟩
  · by_cases e : x = v
    · subst e; exact ⟨hn, ((h.sound u h.here).2).trans (Reach.edge (List.mem_of_getElem? hv))⟩
    · exact h.sound x (dn x e hx)
  · rcases List.mem_cons.1 hx with rfl | hx
    · exact upd_same _ _ _
    · exact up x (h.onst x hx)
  · have e : x ≠ v := fun e => hm (e ▸ List.mem_cons_self)
    exact up y (h.closed x (dn x e hx) (fun hm' => hm (List.mem_cons_of_mem _ hm')) hu y hy)
  · rw [List.take_add_one, List.mem_append] at hy
    rcases hy with hy | hy
    · exact up y (h.done y hy)
    · rw [hv] at hy; simp at hy; rw [hy]; exact upd_same _ _ _
  · have h1 := left_in hs hn
    have h2 := h.size
    simp; omega

theorem rin_done {A : Nat → List Nat} {n r : Nat} {seen : Nat → Bool} {stk : List Nat} {u j K : Nat} (h : RIn A n r seen stk u j K) (hj : j = (A u).length) (hK : K ≤ n) : ROut A n r seen stk := by
  refine ⟨h.root, h.sound, h.onst, fun x hx hm y hy => ?_, by have := h.size; omega⟩
  by_cases e : x = u
  · subst e
    exact h.done y (by rw [hj, List.take_length]; exact hy)
  · exact h.closed x hx hm e y hy

theorem rout_end {A : Nat → List Nat} {n r : Nat} {seen : Nat → Bool} (h : ROut A n r seen []) (x : Nat) : seen x = true ↔ Reach A r x :=
  ⟨fun hx => (h.sound x hx).2, fun hr => hr (fun x => seen x = true) h.root (fun x hx y hy => h.closed x hx (by simp) y hy)⟩

/-! ### The classes, one node after the other -/

theorem range_filter_succ (p : Nat → Bool) (v : Nat) : (List.range (v + 1)).filter p = (List.range v).filter p ++ (if p v then [v] else []) := by
  rw [List.range_succ, List.filter_append]
  congr 1
  cases hp : p v <;> simp [hp]

theorem want_succ (n : Nat) (M : Nat → Nat → Bool) (m : Nat) : want n M (m + 1) = want n M m ++ (if wanted n M m then [cls n M m] else []) := by
  unfold want
  rw [range_filter_succ, List.map_append]
  congr 1
  cases wanted n M m <;> simp

theorem want_zero (n : Nat) (M : Nat → Nat → Bool) : want n M 0 = [] := rfl

theorem want_len (n : Nat) (M : Nat → Nat → Bool) (m : Nat) : (want n M m).length ≤ m := by
  unfold want
  rw [List.length_map]
  exact Nat.le_trans (List.length_filter_le _ _) (by simp)

/-- The members of u's class below v. -/
def part (M : Nat → Nat → Bool) (u v : Nat) : List Nat := (List.range v).filter (fun x => M u x)

theorem part_succ (M : Nat → Nat → Bool) (u v : Nat) : part M u (v + 1) = part M u v ++ (if M u v then [v] else []) := range_filter_succ _ _
theorem part_len (M : Nat → Nat → Bool) (u v : Nat) : (part M u v).length ≤ v := Nat.le_trans (List.length_filter_le _ _) (by simp)
theorem part_all (n : Nat) (M : Nat → Nat → Bool) (u : Nat) : part M u n = cls n M u := rfl

theorem wanted_no {n : Nat} {M : Nat → Nat → Bool} {u v : Nat} (hv : v < u) (hm : M u v = true) : wanted n M u = false := by
  unfold wanted
  have : leastB M u = false := by
    cases hl : leastB M u with
    | false => rfl
    | true => have := leastB_iff.1 hl v hv; rw [hm] at this; cases this
  rw [this]; rfl

theorem wanted_yes {n : Nat} {M : Nat → Nat → Bool} {u : Nat} (hl : ∀ v, v < u → M u v = false) : wanted n M u = decide (1 < (cls n M u).length) := by
  unfold wanted
  rw [leastB_iff.2 hl]; rfl

end Go.Proofs.Qxb6603228a.Tj
