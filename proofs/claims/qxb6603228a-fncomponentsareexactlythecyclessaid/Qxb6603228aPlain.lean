/-
  PLAIN MATHEMATICS: the measures; the search that the model makes; the expected classes; the sort by heads.
-/
import Derived.Test.Qxb6603228aTarjan2
namespace Go.Proofs.Qxb6603228a.Tj

/-! ### The measure of Tarjan's walk -/

/-- The edges (and one more) of each node that the walk has not come to. -/
def white (A : Nat → List Nat) (idx : Nat → Nat) : Nat → Nat
  | 0 => 0
  | n + 1 => white A idx n + if idx n = 0 then (A n).length + 1 else 0

/-- The edges (and one more) that the frames are still to follow. -/
def frames (A : Nat → List Nat) : List (Nat × Nat) → Nat
  | [] => 0
  | (u, k) :: r => frames A r + ((A u).length - k + 1)

def mu (A : Nat → List Nat) (n : Nat) (s : St) : Nat := white A s.idx n + frames A s.wlk

theorem white_out {A : Nat → List Nat} {idx : Nat → Nat} {t c : Nat} : ∀ {n : Nat}, n ≤ t → white A (upd idx t c) n = white A idx n
  | 0, _ => rfl
  | n + 1, h => by
    show white A (upd idx t c) n + _ = white A idx n + _
    rw [white_out (by omega), upd_other _ _ (by omega)]

theorem white_in {A : Nat → List Nat} {idx : Nat → Nat} {t c : Nat} (h0 : idx t = 0) (hc : c ≠ 0) : ∀ {n : Nat}, t < n → white A (upd idx t c) n + ((A t).length + 1) = white A idx n
  | 0, h => by omega
  | n + 1, h => by
    show white A (upd idx t c) n + _ + _ = white A idx n + _
    by_cases e : n = t
    · subst e
      rw [white_out (Nat.le_refl _), upd_same, if_neg hc, if_pos h0]; omega
    · have := white_in (A := A) h0 hc (n := n) (by omega)
      rw [upd_other _ _ e]; omega

theorem frames_adv {A : Nat → List Nat} {v k : Nat} {r : List (Nat × Nat)} (h : k < (A v).length) : frames A ((v, k + 1) :: r) + 1 = frames A ((v, k) :: r) := by
  show frames A r + _ + 1 = frames A r + _
  omega

/-- A visit by the top frame's next edge. -/
theorem mu_visit {A : Nat → List Nat} {n : Nat} {s : St} {t v k : Nat} {r : List (Nat × Nat)} (ht : t < n) (h0 : s.idx t = 0) (hw : s.wlk = (v, k) :: r) (hk : (A v)[k]? = some t) : mu A n (visit s t) < mu A n s := by
  have hkl : k < (A v).length := by
    rcases Nat.lt_or_ge k (A v).length with h1 | h1
    · exact h1
    · rw [List.getElem?_eq_none h1] at hk; cases hk
  have h1 := white_in (A := A) (c := s.cnt + 1) h0 (by omega) ht
  have h2 := frames_adv (A := A) (r := r) hkl
  show white A (upd s.idx t (s.cnt + 1)) n + frames A ((t, 0) :: adv s.wlk) < white A s.idx n + frames A s.wlk
  rw [hw]
  show white A (upd s.idx t (s.cnt + 1)) n + (frames A ((v, k + 1) :: r) + ((A t).length - 0 + 1)) < _
  omega

theorem mu_follow {A : Nat → List Nat} {n : Nat} {s : St} {to v k lo : Nat} {r : List (Nat × Nat)} (hw : s.wlk = (v, k) :: r) (hk : (A v)[k]? = some to) : mu A n (follow s v k r lo) < mu A n s := by
  have hkl : k < (A v).length := by
    rcases Nat.lt_or_ge k (A v).length with h1 | h1
    · exact h1
    · rw [List.getElem?_eq_none h1] at hk; cases hk
  have h2 := frames_adv (A := A) (r := r) hkl
  show white A s.idx n + frames A ((v, k + 1) :: r) < white A s.idx n + frames A s.wlk
  rw [hw]; omega

theorem mu_pop {A : Nat → List Nat} {n : Nat} {s s' : St} {v k : Nat} {r : List (Nat × Nat)} (hw : s.wlk = (v, k) :: r) (hw' : s'.wlk = r) (hi : s'.idx = s.idx) : mu A n s' < mu A n s := by
  show white A s'.idx n + frames A s'.wlk < white A s.idx n + frames A s.wlk
  rw [hw, hw', hi]
  show _ < white A s.idx n + (frames A r + _)
  omega

/-! ### The stack is no longer than the graph -/

/-- How many nodes bear no mark. -/
def left (seen : Nat → Bool) : Nat → Nat
  | 0 => 0
  | n + 1 => left seen n + if seen n then 0 else 1

theorem left_out {seen : Nat → Bool} {t : Nat} {c : Bool} : ∀ {n : Nat}, n ≤ t → left (upd seen t c) n = left seen n
  | 0, _ => rfl
  | n + 1, h => by
    show left (upd seen t c) n + _ = left seen n + _
    rw [left_out (by omega), upd_other _ _ (by omega)]

theorem left_in {seen : Nat → Bool} {t : Nat} (h0 : seen t = false) : ∀ {n : Nat}, t < n → left (upd seen t true) n + 1 = left seen n
  | 0, h => by omega
  | n + 1, h => by
    show left (upd seen t true) n + _ + 1 = left seen n + _
    by_cases e : n = t
    · subst e
      rw [left_out (Nat.le_refl _), upd_same, h0]; simp
    · have := left_in h0 (n := n) (by omega)
      rw [upd_other _ _ e]; omega

theorem left_all : ∀ (n : Nat), left (fun _ => false) n = n
  | 0 => rfl
  | n + 1 => by show left (fun _ => false) n + 1 = n + 1; rw [left_all n]

theorem nodup_len : ∀ {n : Nat} {l : List Nat}, l.Nodup → (∀ x ∈ l, x < n) → l.length ≤ n
  | 0, l, _, h2 => by
    cases l with
    | nil => exact Nat.le_refl _
    | cons a r => exact absurd (h2 a List.mem_cons_self) (by omega)
  | n + 1, l, h1, h2 => by
    by_cases hm : n ∈ l
    · have h3 := nodup_len (n := n) (l := l.erase n) (h1.erase n) (fun x hx => by
        rw [h1.mem_erase_iff] at hx
        have := h2 x hx.2
        omega)
      rw [List.length_erase_of_mem hm] at h3
      omega
    · have h3 := nodup_len (n := n) (l := l) h1 (fun x hx => by
        have := h2 x hx
        have : x ≠ n := fun e => hm (e ▸ hx)
        omega)
      omega

theorem Inv.stk_len {A : Nat → List Nat} {n : Nat} {s : St} (h : Inv A n s) : s.stk.length ≤ n :=
  nodup_len (h.srt.imp (fun {a b} hab e => by subst e; omega)) (fun x hx => h.idx_lt x (h.stk_idx x hx))

theorem Inv.wlk_len {A : Nat → List Nat} {n : Nat} {s : St} (h : Inv A n s) : s.wlk.length ≤ n := by
  have h1 : (s.wlk.map (fun f => f.1)).Nodup := by
    rw [List.Nodup, List.pairwise_map]
    exact h.wsrt.imp (fun {a b} hab e => by rw [e] at hab; omega)
  have h2 := nodup_len h1 (n := n) (fun x hx => by
    obtain ⟨f, hf, rfl⟩ := List.mem_map.1 hx
    have := (h.wsub f hf).1
    exact h.idx_lt _ (h.stk_idx _ this))
  simpa using h2

/-! ### Lists that rise are told by what they hold -/

theorem eq_of_rising {α : Type} (f : α → Nat) : ∀ {l m : List α}, l.Pairwise (fun a b => f a < f b) → m.Pairwise (fun a b => f a < f b) → (∀ x, x ∈ l ↔ x ∈ m) → l = m
  | [], m, _, _, h => by
    cases m with
    | nil => rfl
    | cons a r => exact absurd ((h a).2 List.mem_cons_self) (by simp)
  | a :: l, m, h1, h2, h => by
    cases m with
    | nil => exact absurd ((h a).1 List.mem_cons_self) (by simp)
    | cons b r =>
      rw [List.pairwise_cons] at h1 h2
      have e : a = b := by
        rcases List.mem_cons.1 ((h a).1 List.mem_cons_self) with e | ha
        · exact e
        · rcases List.mem_cons.1 ((h b).2 List.mem_cons_self) with e | hb
          · exact e.symm
          · have := h1.1 b hb; have := h2.1 a ha; omega
      subst e
      congr 1
      refine eq_of_rising f h1.2 h2.2 fun x => ⟨fun hx => ?_, fun hx => ?_⟩
      · rcases List.mem_cons.1 ((h x).1 (List.mem_cons_of_mem _ hx)) with e | hr
        · have := h1.1 x hx; rw [e] at this; omega
        · exact hr
      · rcases List.mem_cons.1 ((h x).2 (List.mem_cons_of_mem _ hx)) with e | hr
        · have := h2.1 x hx; rw [e] at this; omega
        · exact hr

/-! ### The expected classes -/

def cls (n : Nat) (M : Nat → Nat → Bool) (u : Nat) : List Nat := (List.range n).filter (fun v => M u v)
def leastB (M : Nat → Nat → Bool) (u : Nat) : Bool := (List.range u).all (fun v => !M u v)
def wanted (n : Nat) (M : Nat → Nat → Bool) (u : Nat) : Bool := leastB M u && decide (1 < (cls n M u).length)
def want (n : Nat) (M : Nat → Nat → Bool) (m : Nat) : List (List Nat) := ((List.range m).filter (wanted n M)).map (cls n M)

theorem cls_rising (n : Nat) (M : Nat → Nat → Bool) (u : Nat) : (cls n M u).Pairwise (fun a b => a < b) := List.Pairwise.filter _ List.pairwise_lt_range

theorem mem_cls {n : Nat} {M : Nat → Nat → Bool} {u v : Nat} : v ∈ cls n M u ↔ v < n ∧ M u v = true := by simp [cls]

theorem leastB_iff {M : Nat → Nat → Bool} {u : Nat} : leastB M u = true ↔ ∀ v, v < u → M u v = false := by simp [leastB]

/-- The head of a class is its least node. -/
theorem cls_head {n : Nat} {M : Nat → Nat → Bool} {u : Nat} (hu : u < n) (hr : M u u = true) (hl : leastB M u = true) : (cls n M u).headD 0 = u := by
  have hm : u ∈ cls n M u := mem_cls.2 ⟨hu, hr⟩
  have hs := cls_rising n M u
  cases hc : cls n M u with
  | nil => rw [hc] at hm; cases hm
  | cons a r =>
    rw [hc] at hm hs
    show a = u
    rcases List.mem_cons.1 hm with e | hm
    · exact e.symm
    · rw [List.pairwise_cons] at hs
      have h1 := hs.1 u hm
      have h2 : a ∈ cls n M u := by rw [hc]; exact List.mem_cons_self
      have h3 := leastB_iff.1 hl a h1
      rw [(mem_cls.1 h2).2] at h3
      cases h3

theorem want_rising {n : Nat} {M : Nat → Nat → Bool} (hr : ∀ u, u < n → M u u = true) : (want n M n).Pairwise (fun c d => c.headD 0 < d.headD 0) := by
  unfold want
  rw [List.pairwise_map]
  have h1 : ((List.range n).filter (wanted n M)).Pairwise (fun a b => a < b) := List.Pairwise.filter _ List.pairwise_lt_range
  refine List.Pairwise.imp_of_mem ?_ h1
  intro a b ha hb hab
  rw [List.mem_filter, List.mem_range] at ha hb
  have ha2 := ha.2
  have hb2 := hb.2
  simp only [wanted, Bool.and_eq_true] at ha2 hb2
  rw [cls_head ha.1 (hr a ha.1) ha2.1, cls_head hb.1 (hr b hb.1) hb2.1]
  exact hab

theorem exists_other {c : List Nat} (h : 1 < c.length) (hs : c.Pairwise (fun a b => a < b)) (u : Nat) : ∃ y, y ≠ u ∧ y ∈ c := by
  cases c with
  | nil => simp at h
  | cons a r =>
    cases r with
    | nil => simp at h
    | cons b r =>
      rw [List.pairwise_cons] at hs
      have := hs.1 b List.mem_cons_self
      by_cases e : a = u
      · exact ⟨b, by omega, by simp⟩
      · exact ⟨a, e, by simp⟩

/-- THE COMPONENTS, SORTED BY THEIR HEADS, ARE THE EXPECTED CLASSES. -/
theorem sorted_eq_want {A : Nat → List Nat} {n : Nat} {M : Nat → Nat → Bool} {C D : List (List Nat)} (h : CompsOK A n C) (hM : ∀ u v, u < n → v < n → (M u v = true ↔ Mut A u v)) (hp : D.Perm C)
    (hs : D.Pairwise (fun c d => c.headD 0 ≤ d.headD 0)) : D = want n M n := by
  have hr : ∀ u, u < n → M u u = true := fun u hu => (hM u u hu hu).2 ⟨Reach.refl _ _, Reach.refl _ _⟩
  have sym : ∀ {c d : List Nat}, (∀ x ∈ c, x ∉ d) → (∀ x ∈ d, x ∉ c) := fun hcd x hx hx' => hcd x hx' hx
  have hD : D.Pairwise (fun c d => ∀ x ∈ c, x ∉ d) := (hp.pairwise_iff (fun h1 => sym h1)).2 h.apart
  have hne : ∀ c ∈ D, c.headD 0 ∈ c := fun c hc => by
    have := (h.one c (hp.mem_iff.1 hc)).2.1
    cases c with
    | nil => simp at this
    | cons a r => exact List.mem_cons_self
  have hD' : D.Pairwise (fun c d => c.headD 0 < d.headD 0) := by
    have h2 := hs.and hD
    refine List.Pairwise.imp_of_mem ?_ h2
    rintro c d hc hd ⟨h3, h4⟩
    refine Nat.lt_of_le_of_ne h3 fun e => h4 _ (hne c hc) ?_
    rw [e]; exact hne d hd
  -- a component is the class of each of its nodes
  have isCls : ∀ c ∈ C, ∀ u ∈ c, c = cls n M u := fun c hc u hu => by
    obtain ⟨h1, _, h3⟩ := h.one c hc
    refine eq_of_rising id h1 (cls_rising n M u) fun x => ?_
    rw [mem_cls, (h3 u hu).2 x]
    constructor
    · intro hm
      have hx : x ∈ c := ((h3 u hu).2 x).2 hm
      exact ⟨(h3 x hx).1, (hM u x (h3 u hu).1 (h3 x hx).1).2 hm⟩
    · rintro ⟨hx, hm⟩
      exact (hM u x (h3 u hu).1 hx).1 hm
  refine eq_of_rising (fun c => c.headD 0) hD' (want_rising hr) fun c => ?_
  rw [hp.mem_iff]
  unfold want
  rw [List.mem_map]
  constructor
  · intro hc
    obtain ⟨h1, h2, h3⟩ := h.one c hc
    cases hcc : c with
    | nil => rw [hcc] at h2; simp at h2
    | cons u r =>
      have hu : u ∈ c := by rw [hcc]; exact List.mem_cons_self
      have e := isCls c hc u hu
      refine ⟨u, ?_, by rw [← e, hcc]⟩
      rw [List.mem_filter, List.mem_range]
      refine ⟨(h3 u hu).1, ?_⟩
      simp only [wanted, Bool.and_eq_true, decide_eq_true_eq]
      refine ⟨leastB_iff.2 fun v hv => ?_, by rw [← e]; omega⟩
      cases hm : M u v with
      | false => rfl
      | true =>
        have hvc : v ∈ c := by rw [e]; exact mem_cls.2 ⟨by have := (h3 u hu).1; omega, hm⟩
        rw [hcc] at hvc h1
        rw [List.pairwise_cons] at h1
        rcases List.mem_cons.1 hvc with e | hv'
        · omega
        · have := h1.1 v hv'; omega
  · rintro ⟨u, hu, rfl⟩
    rw [List.mem_filter, List.mem_range] at hu
    obtain ⟨hu, hw⟩ := hu
    simp only [wanted, Bool.and_eq_true, decide_eq_true_eq] at hw
    obtain ⟨y, hyu, hy⟩ := exists_other hw.2 (cls_rising n M u) u
    have hm := (hM u y hu (mem_cls.1 hy).1).1 (mem_cls.1 hy).2
    obtain ⟨c, hc, huc⟩ := h.all u hu ⟨y, hyu, hm⟩
    rw [← isCls c hc u huc]
    exact hc

/-! ### The sort of the order -/

def swapAt (o : List Nat) (k : Nat) : List Nat := (o.set (k - 1) (o.getD k 0)).set k (o.getD (k - 1) 0)

theorem swapAt_length (o : List Nat) (k : Nat) : (swapAt o k).length = o.length := by simp [swapAt]

theorem swapAt_getD {o : List Nat} {k : Nat} (h0 : 0 < k) (hk : k < o.length) (j : Nat) : (swapAt o k).getD j 0 = if j = k then o.getD (k - 1) 0 else if j = k - 1 then o.getD k 0 else o.getD j 0 := by
  unfold swapAt
  simp only [List.getD_eq_getElem?_getD, List.getElem?_set, List.length_set]
  by_cases e : j = k
  · subst e; simp [hk]
  · rw [if_neg (fun h => e h.symm), if_neg e]
    by_cases e2 : j = k - 1
    · subst e2; simp [show k - 1 < o.length by omega]
    · rw [if_neg (fun h => e2 h.symm), if_neg e2]

theorem swapAt_split {p q : List Nat} {x y : Nat} : swapAt (p ++ x :: y :: q) (p.length + 1) = p ++ y :: x :: q := by
  unfold swapAt
  have e1 : (p ++ x :: y :: q).getD (p.length + 1) 0 = y := by simp [List.getD_eq_getElem?_getD]
  have e2 : (p ++ x :: y :: q).getD (p.length + 1 - 1) 0 = x := by simp [List.getD_eq_getElem?_getD]
  rw [e1, e2]
  simp

theorem swapAt_perm {o : List Nat} {k : Nat} (h0 : 0 < k) (hk : k < o.length) : (swapAt o k).Perm o := by
  obtain ⟨j, rfl⟩ : ∃ j, k = j + 1 := ⟨k - 1, by omega⟩
  have e : o = o.take j ++ o[j]'(by omega) :: o[j + 1]'hk :: o.drop (j + 2) := by
    rw [List.getElem_cons_drop, List.getElem_cons_drop, List.take_append_drop]
  have hl : (o.take j).length = j := by rw [List.length_take]; omega
  have h2 := swapAt_split (p := o.take j) (q := o.drop (j + 2)) (x := o[j]'(by omega)) (y := o[j + 1]'hk)
  rw [hl, ← e] at h2
  rw [h2]
  conv => rhs; rw [e]
  exact List.Perm.append_left _ (List.Perm.swap _ _ _)

/-- The first i + 1 of the order rise by their keys, but for the one at k, which may be too small for its place. -/
def Rises (key : Nat → Nat) (o : List Nat) (i k : Nat) : Prop := ∀ a b, a < b → b ≤ i → b ≠ k → key (o.getD a 0) ≤ key (o.getD b 0)

theorem rises_swap {key : Nat → Nat} {o : List Nat} {i k : Nat} (h : Rises key o i k) (h0 : 0 < k) (hk : k ≤ i) (hi : i < o.length) (hgt : key (o.getD k 0) < key (o.getD (k - 1) 0)) : Rises key (swapAt o k) i (k - 1) := by
  intro a b hab hb hne
  rw [swapAt_getD h0 (by omega), swapAt_getD h0 (by omega)]
  by_cases e1 : b = k
  · rw [if_pos e1]
    rw [if_neg (by omega : ¬ a = k)]
    by_cases e2 : a = k - 1
    · rw [if_pos e2]; omega
    · rw [if_neg e2]; exact h a (k - 1) (by omega) (by omega) (by omega)
  · rw [if_neg e1, if_neg hne]
    by_cases e2 : a = k
    · rw [if_pos e2]; exact h (k - 1) b (by omega) hb e1
    · rw [if_neg e2]
      by_cases e3 : a = k - 1
      · rw [if_pos e3]; exact h k b (by omega) hb e1
      · rw [if_neg e3]; exact h a b hab hb e1

theorem rises_done {key : Nat → Nat} {o : List Nat} {i k : Nat} (h : Rises key o i k) (hk : k ≤ i) (hle : k = 0 ∨ key (o.getD (k - 1) 0) ≤ key (o.getD k 0)) : ∀ a b, a < b → b ≤ i → key (o.getD a 0) ≤ key (o.getD b 0) := by
  intro a b hab hb
  by_cases e : b = k
  · subst e
    rcases hle with e0 | hle
    · omega
    · by_cases e2 : a = b - 1
      · subst e2; exact hle
      · have := h a (b - 1) (by omega) (by omega) (by omega)
        omega
  · exact h a b hab hb e

/-- The order applied. -/
theorem ordered {C : List (List Nat)} {o : List Nat} (hp : o.Perm (List.range C.length)) (hs : ∀ a b, a < b → b < C.length → (C.getD (o.getD a 0) []).headD 0 ≤ (C.getD (o.getD b 0) []).headD 0) :
    (o.map (fun j => C.getD j [])).Perm C ∧ (o.map (fun j => C.getD j [])).Pairwise (fun c d => c.headD 0 ≤ d.headD 0) := by
  constructor
  · have h1 := hp.map (fun j => C.getD j [])
    have h2 : (List.range C.length).map (fun j => C.getD j []) = C := by
      apply List.ext_getElem
      · simp
      · intro i h3 h4
        simp [List.getD_eq_getElem?_getD, h4]
    rw [h2] at h1
    exact h1
  · have hl : o.length = C.length := by simpa using hp.length_eq
    rw [List.pairwise_map, List.pairwise_iff_getElem]
    intro i j hi hj hij
    have := hs i j hij (by omega)
    simpa [List.getD_eq_getElem?_getD, hi, hj] using this

end Go.Proofs.Qxb6603228a.Tj
