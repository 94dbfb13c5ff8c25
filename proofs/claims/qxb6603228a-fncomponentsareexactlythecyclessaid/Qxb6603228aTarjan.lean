/-
  PLAIN MATHEMATICS (no Go in sight): Tarjan's walk with a stack of its own: the invariant, and what each step of the walk does to it.
-/
namespace Go.Proofs.Qxb6603228a.Tj

/-- v lies in every set that holds u and is closed under the edges. -/
def Reach (A : Nat → List Nat) (u v : Nat) : Prop := ∀ S : Nat → Prop, S u → (∀ x, S x → ∀ y, y ∈ A x → S y) → S v

theorem Reach.refl (A : Nat → List Nat) (u : Nat) : Reach A u u := fun _ h _ => h
theorem Reach.trans {A : Nat → List Nat} {u v w : Nat} (h : Reach A u v) (k : Reach A v w) : Reach A u w := fun S s c => k S (h S s c) c
theorem Reach.edge {A : Nat → List Nat} {x y : Nat} (h : y ∈ A x) : Reach A x y := fun _ s c => c x s y h

def Mut (A : Nat → List Nat) (u v : Nat) : Prop := Reach A u v ∧ Reach A v u

structure St where
  idx : Nat → Nat
  low : Nat → Nat
  stk : List Nat
  wlk : List (Nat × Nat)
  cnt : Nat
  cmp : List (List Nat)

def upd {α : Type} (f : Nat → α) (x : Nat) (v : α) : Nat → α := fun y => if y = x then v else f y
theorem upd_same {α : Type} (f : Nat → α) (x : Nat) (v : α) : upd f x v x = v := by simp [upd]
theorem upd_other {α : Type} (f : Nat → α) {x y : Nat} (v : α) (h : y ≠ x) : upd f x v y = f y := by simp [upd, h]

def gray (W : List (Nat × Nat)) (g : Nat) : Prop := ∃ k, (g, k) ∈ W
/-- The edges out of y that the walk has followed. -/
def Proc (A : Nat → List Nat) (W : List (Nat × Nat)) (y z : Nat) : Prop := (∃ k, (y, k) ∈ W ∧ z ∈ (A y).take k) ∨ (¬ gray W y ∧ z ∈ A y)

structure Inv (A : Nat → List Nat) (n : Nat) (s : St) : Prop where
  idx_lt : ∀ x, s.idx x ≠ 0 → x < n
  stk_idx : ∀ x ∈ s.stk, s.idx x ≠ 0
  idx_le : ∀ x, s.idx x ≤ s.cnt
  srt : s.stk.Pairwise (fun a b => s.idx b < s.idx a)
  wsrt : s.wlk.Pairwise (fun a b => s.idx b.1 < s.idx a.1)
  wsub : ∀ f ∈ s.wlk, f.1 ∈ s.stk ∧ f.2 ≤ (A f.1).length
  seen : ∀ x z, s.idx x ≠ 0 → Proc A s.wlk x z → s.idx z ≠ 0
  fin : ∀ x, s.idx x ≠ 0 → x ∉ s.stk → ∀ z ∈ A x, s.idx z ≠ 0 ∧ z ∉ s.stk
  down : ∀ g, gray s.wlk g → ∀ y ∈ s.stk, s.idx g ≤ s.idx y → Reach A g y
  up : ∀ y ∈ s.stk, ∃ g, gray s.wlk g ∧ s.idx g ≤ s.idx y ∧ Reach A y g
  lowC : ∀ y ∈ s.stk, ∀ z, Proc A s.wlk y z → z ∈ s.stk → ∀ g, gray s.wlk g → s.idx g ≤ s.idx y → (∀ g', gray s.wlk g' → s.idx g' ≤ s.idx y → s.idx g' ≤ s.idx g) → s.low g ≤ s.idx z
  lowD : ∀ g, gray s.wlk g → s.low g ≤ s.idx g ∧ ∃ z ∈ s.stk, s.idx z = s.low g ∧ Reach A g z
  c1 : ∀ c ∈ s.cmp, c.Pairwise (fun a b => a < b) ∧ 2 ≤ c.length ∧ ∀ x ∈ c, s.idx x ≠ 0 ∧ x ∉ s.stk ∧ ∀ y, y ∈ c ↔ Mut A x y
  c2 : ∀ x, s.idx x ≠ 0 → x ∉ s.stk → (∃ y, y ≠ x ∧ Mut A x y) → ∃ c ∈ s.cmp, x ∈ c
  c3 : s.cmp.Pairwise (fun c d => ∀ x ∈ c, x ∉ d)

/-- The walk before it begins. -/
def St.init : St := { idx := fun _ => 0, low := fun _ => 0, stk := [], wlk := [], cnt := 0, cmp := [] }

theorem init_inv (A : Nat → List Nat) (n : Nat) : Inv A n St.init where
  idx_lt := by intro x h; exact absurd rfl h
  stk_idx := by intro x h; cases h
  idx_le := by intro x; exact Nat.le_refl _
  srt := List.Pairwise.nil
  wsrt := List.Pairwise.nil
  wsub := by intro f h; cases h
  seen := by intro x z h; exact absurd rfl h
  fin := by intro x h; exact absurd rfl h
  down := by intro g h; obtain ⟨k, hk⟩ := h; cases hk
  up := by intro y h; cases h
  lowC := by intro y h; cases h
  lowD := by intro g h; obtain ⟨k, hk⟩ := h; cases hk
  c1 := by intro c h; cases h
  c2 := by intro x h; exact absurd rfl h
  c3 := List.Pairwise.nil

theorem gray_cons {W : List (Nat × Nat)} {v k g : Nat} : gray ((v, k) :: W) g ↔ g = v ∨ gray W g := by
  constructor
  · rintro ⟨j, hj⟩
    rcases List.mem_cons.1 hj with h | h
    · exact .inl (Prod.mk.inj h).1
    · exact .inr ⟨j, h⟩
  · rintro (rfl | ⟨j, hj⟩)
    · exact ⟨k, List.mem_cons_self⟩
    · exact ⟨j, List.mem_cons_of_mem _ hj⟩

section
variable {A : Nat → List Nat} {n : Nat} {s : St}

theorem Inv.gray_stk (h : Inv A n s) {g : Nat} (hg : gray s.wlk g) : g ∈ s.stk := by
  obtain ⟨k, hk⟩ := hg
  exact (h.wsub _ hk).1

theorem pairwise_inj {idx : Nat → Nat} : ∀ {l : List Nat}, l.Pairwise (fun a b => idx b < idx a) → ∀ x ∈ l, ∀ y ∈ l, idx x = idx y → x = y
  | [], _, x, hx, _, _, _ => by cases hx
  | a :: l, h, x, hx, y, hy, e => by
    rw [List.pairwise_cons] at h
    rcases List.mem_cons.1 hx with ex | hx'
    · rcases List.mem_cons.1 hy with ey | hy'
      · rw [ex, ey]
      · have := h.1 y hy'; rw [ex] at e; omega
    · rcases List.mem_cons.1 hy with ey | hy'
      · have := h.1 x hx'; rw [ey] at e; omega
      · exact pairwise_inj h.2 x hx' y hy' e

theorem Inv.inj (h : Inv A n s) {x y : Nat} (hx : x ∈ s.stk) (hy : y ∈ s.stk) (e : s.idx x = s.idx y) : x = y := pairwise_inj h.srt x hx y hy e

/-- Every gray node lies at or below the top frame's. -/
theorem Inv.top_max (h : Inv A n s) {v k : Nat} {rest : List (Nat × Nat)} (hw : s.wlk = (v, k) :: rest) {g : Nat} (hg : gray s.wlk g) : s.idx g ≤ s.idx v := by
  rw [hw, gray_cons] at hg
  rcases hg with rfl | ⟨j, hj⟩
  · exact Nat.le_refl _
  · have := h.wsrt
    rw [hw, List.pairwise_cons] at this
    exact Nat.le_of_lt (this.1 _ hj)

theorem Inv.rest_lt (h : Inv A n s) {v k : Nat} {rest : List (Nat × Nat)} (hw : s.wlk = (v, k) :: rest) {g : Nat} (hg : gray rest g) : s.idx g < s.idx v := by
  obtain ⟨j, hj⟩ := hg
  have := h.wsrt
  rw [hw, List.pairwise_cons] at this
  exact this.1 _ hj

/-- No gray node: an empty stack. -/
theorem Inv.stk_nil (h : Inv A n s) (hw : s.wlk = []) : s.stk = [] := by
  cases hs : s.stk with
  | nil => rfl
  | cons a l =>
    obtain ⟨g, ⟨k, hk⟩, _⟩ := h.up a (by rw [hs]; exact List.mem_cons_self)
    rw [hw] at hk
    cases hk

/-- What the frame of y says is what any frame of y says. -/
theorem Inv.frame_one (h : Inv A n s) {v k j : Nat} {rest : List (Nat × Nat)} (hw : s.wlk = (v, k) :: rest) (hj : (v, j) ∈ s.wlk) : j = k := by
  rw [hw] at hj
  rcases List.mem_cons.1 hj with e | e
  · exact (Prod.mk.inj e).2
  · have := h.rest_lt hw ⟨j, e⟩
    omega

theorem Inv.top_not_rest (h : Inv A n s) {v k : Nat} {rest : List (Nat × Nat)} (hw : s.wlk = (v, k) :: rest) : ¬ gray rest v := fun hg => by
  have := h.rest_lt hw hg
  omega
end

/-- The top frame has followed one edge more. -/
def adv : List (Nat × Nat) → List (Nat × Nat)
  | [] => []
  | (v, k) :: r => (v, k + 1) :: r

theorem gray_adv {W : List (Nat × Nat)} {g : Nat} : gray (adv W) g ↔ gray W g := by
  cases W with
  | nil => exact Iff.rfl
  | cons f r => obtain ⟨v, k⟩ := f; simp only [adv, gray_cons]

/-- Behind one edge more of the top frame. -/
theorem proc_adv {A : Nat → List Nat} {v k to : Nat} {rest : List (Nat × Nat)} (hto : (A v)[k]? = some to) {y z : Nat} (h : Proc A ((v, k + 1) :: rest) y z) : Proc A ((v, k) :: rest) y z ∨ (y = v ∧ z = to) := by
  rcases h with ⟨j, hj, hz⟩ | ⟨hn, hz⟩
  · rcases List.mem_cons.1 hj with e | e
    · obtain ⟨rfl, rfl⟩ := Prod.mk.inj e
      rw [List.take_add_one, List.mem_append] at hz
      rcases hz with hz | hz
      · exact .inl (.inl ⟨k, List.mem_cons_self, hz⟩)
      · rw [hto] at hz
        simp at hz
        exact .inr ⟨rfl, hz⟩
    · exact .inl (.inl ⟨j, List.mem_cons_of_mem _ e, hz⟩)
  · refine .inl (.inr ⟨fun hg => hn ?_, hz⟩)
    rw [gray_cons] at hg ⊢
    exact hg

/-- Behind a visit. -/
theorem proc_visit {A : Nat → List Nat} {W : List (Nat × Nat)} {t : Nat} (hn : ¬ gray W t) {y z : Nat} (hy : y ≠ t) (h : Proc A ((t, 0) :: W) y z) : Proc A W y z := by
  have _ := hn
  rcases h with ⟨j, hj, hz⟩ | ⟨hg, hz⟩
  · rcases List.mem_cons.1 hj with e | e
    · exact absurd (Prod.mk.inj e).1 hy
    · exact .inl ⟨j, e, hz⟩
  · exact .inr ⟨fun hg' => hg (gray_cons.2 (.inr hg')), hz⟩

theorem proc_new {A : Nat → List Nat} {W : List (Nat × Nat)} {t : Nat} (hn : ¬ gray W t) {z : Nat} (h : Proc A ((t, 0) :: W) t z) : False := by
  rcases h with ⟨j, hj, hz⟩ | ⟨hg, _⟩
  · rcases List.mem_cons.1 hj with e | e
    · obtain ⟨_, rfl⟩ := Prod.mk.inj e
      simp at hz
    · exact hn ⟨j, e⟩
  · exact hg (gray_cons.2 (.inl rfl))

/-- Where the walk comes to t from: nowhere, or by the top frame's next edge. -/
def Comes (A : Nat → List Nat) (W : List (Nat × Nat)) (t : Nat) : Prop := W = [] ∨ ∃ v k r, W = (v, k) :: r ∧ (A v)[k]? = some t

def visit (s : St) (t : Nat) : St :=
  { idx := upd s.idx t (s.cnt + 1), low := upd s.low t (s.cnt + 1), stk := t :: s.stk, wlk := (t, 0) :: adv s.wlk, cnt := s.cnt + 1, cmp := s.cmp }

theorem proc_comes {A : Nat → List Nat} {W : List (Nat × Nat)} {t : Nat} (hc : Comes A W t) {y z : Nat} (h : Proc A (adv W) y z) : Proc A W y z ∨ (z = t ∧ ∃ v k r, W = (v, k) :: r ∧ y = v ∧ (A v)[k]? = some t) := by
  rcases hc with rfl | ⟨v, k, r, rfl, hk⟩
  · exact .inl h
  · rcases proc_adv hk h with h | ⟨rfl, rfl⟩
    · exact .inl h
    · exact .inr ⟨rfl, y, k, r, rfl, rfl, hk⟩

theorem visit_inv {A : Nat → List Nat} {n : Nat} {s : St} (h : Inv A n s) {t : Nat} (ht : t < n) (h0 : s.idx t = 0) (hc : Comes A s.wlk t) : Inv A n (visit s t) := by
  have tn : t ∉ s.stk := fun hm => h.stk_idx t hm h0
  have ng : ¬ gray s.wlk t := fun hg => tn (h.gray_stk hg)
  have ng' : ¬ gray (adv s.wlk) t := fun hg => ng (gray_adv.1 hg)
  have ix : ∀ x, x ≠ t → upd s.idx t (s.cnt + 1) x = s.idx x := fun x hx => upd_other _ _ hx
  have lx : ∀ x, x ≠ t → upd s.low t (s.cnt + 1) x = s.low x := fun x hx => upd_other _ _ hx
  have it : upd s.idx t (s.cnt + 1) t = s.cnt + 1 := upd_same _ _ _
  have lt' : upd s.low t (s.cnt + 1) t = s.cnt + 1 := upd_same _ _ _
  have ne : ∀ x ∈ s.stk, x ≠ t := fun x hx e => tn (e ▸ hx)
  have gr : ∀ g, gray ((t, 0) :: adv s.wlk) g ↔ g = t ∨ gray s.wlk g := fun g => by rw [gray_cons, gray_adv]
  have iz : ∀ x, upd s.idx t (s.cnt + 1) x ≠ 0 → x = t ∨ s.idx x ≠ 0 := fun x hx => by
    by_cases e : x = t
    · exact .inl e
    · rw [ix x e] at hx; exact .inr hx
  have zi : ∀ x, s.idx x ≠ 0 → upd s.idx t (s.cnt + 1) x ≠ 0 := fun x hx => by
    rw [ix x (fun e => hx (e ▸ h0))]; exact hx
  have nz : ∀ x, s.idx x ≠ 0 → x ≠ t := fun x hx e => hx (e ▸ h0)
  have reach_t : ∀ g, gray s.wlk g → Reach A g t := by
    intro g hg
    rcases hc with e | ⟨v, k, r, e, hk⟩
    · obtain ⟨j, hj⟩ := hg; rw [e] at hj; cases hj
    · have hv : gray s.wlk v := ⟨k, by rw [e]; exact List.mem_cons_self⟩
      exact (h.down g hg v (h.gray_stk hv) (h.top_max e hg)).trans (Reach.edge (List.mem_of_getElem? hk))
  refine ⟨?_, ?_, ?_, ?_, ?_, ?_, ?_, ?_, ?_, ?_, ?_, ?_, ?_, ?_, ?_⟩
  · intro x hx
    rcases iz x hx with rfl | hx
    · exact ht
    · exact h.idx_lt x hx
  · intro x hx
    rcases List.mem_cons.1 hx with rfl | hx
    · show upd s.idx x (s.cnt + 1) x ≠ 0
      rw [it]; omega
    · exact zi x (h.stk_idx x hx)
  · intro x
    show upd s.idx t (s.cnt + 1) x ≤ s.cnt + 1
    by_cases e : x = t
    · subst e; rw [it]; exact Nat.le_refl _
    · rw [ix x e]; have := h.idx_le x; omega
  · show (t :: s.stk).Pairwise _
    rw [List.pairwise_cons]
    constructor
    · intro b hb
      show upd s.idx t (s.cnt + 1) b < upd s.idx t (s.cnt + 1) t
      rw [it, ix b (ne b hb)]
      have := h.idx_le b; omega
    · refine List.Pairwise.imp_of_mem ?_ h.srt
      intro a b ha hb hab
      show upd s.idx t (s.cnt + 1) b < upd s.idx t (s.cnt + 1) a
      rw [ix a (ne a ha), ix b (ne b hb)]; exact hab
  · show ((t, 0) :: adv s.wlk).Pairwise _
    rw [List.pairwise_cons]
    constructor
    · intro b hb
      show upd s.idx t (s.cnt + 1) b.1 < upd s.idx t (s.cnt + 1) t
      have hb' : gray s.wlk b.1 := gray_adv.1 ⟨b.2, hb⟩
      rw [it, ix _ (ne _ (h.gray_stk hb'))]
      have := h.idx_le b.1; omega
    · have e1 : (adv s.wlk).Pairwise (fun a b => s.idx b.1 < s.idx a.1) := by
        have := h.wsrt
        cases hw : s.wlk with
        | nil => exact List.Pairwise.nil
        | cons f r =>
          obtain ⟨v, k⟩ := f
          rw [hw] at this
          rw [List.pairwise_cons] at this
          show ((v, k + 1) :: r).Pairwise _
          rw [List.pairwise_cons]
          exact ⟨this.1, this.2⟩
      refine List.Pairwise.imp_of_mem ?_ e1
      intro a b ha hb hab
      have ha' : gray s.wlk a.1 := gray_adv.1 ⟨a.2, ha⟩
      have hb' : gray s.wlk b.1 := gray_adv.1 ⟨b.2, hb⟩
      show upd s.idx t (s.cnt + 1) b.1 < upd s.idx t (s.cnt + 1) a.1
      rw [ix _ (ne _ (h.gray_stk ha')), ix _ (ne _ (h.gray_stk hb'))]; exact hab
  · intro f hf
    rcases List.mem_cons.1 hf with rfl | hf
    · exact ⟨List.mem_cons_self, Nat.zero_le _⟩
    · rcases hc with e | ⟨v, k, r, e, hk⟩
      · rw [e] at hf; cases hf
      · have hsub := h.wsub
        rw [e] at hsub hf
        rcases List.mem_cons.1 hf with rfl | hf
        · refine ⟨List.mem_cons_of_mem _ (hsub (v, k) List.mem_cons_self).1, ?_⟩
          have : k < (A v).length := by
            rcases Nat.lt_or_ge k (A v).length with h1 | h1
            · exact h1
            · rw [List.getElem?_eq_none h1] at hk; cases hk
          exact this
        · exact ⟨List.mem_cons_of_mem _ (hsub f (List.mem_cons_of_mem _ hf)).1, (hsub f (List.mem_cons_of_mem _ hf)).2⟩
  · intro x z hx hp
    by_cases e : x = t
    · subst e; exact (proc_new ng' hp).elim
    · have hp := proc_visit ng' e hp
      rcases proc_comes hc hp with hp | ⟨rfl, _⟩
      · have : s.idx x ≠ 0 := by rcases iz x hx with h1 | h1; exact absurd h1 e; exact h1
        exact zi z (h.seen x z this hp)
      · show upd s.idx z (s.cnt + 1) z ≠ 0
        rw [it]; omega
  · intro x hx hn z hz
    have hxt : x ≠ t := fun e => hn (e ▸ List.mem_cons_self)
    have hx0 : s.idx x ≠ 0 := by rcases iz x hx with h1 | h1; exact absurd h1 hxt; exact h1
    obtain ⟨h1, h2⟩ := h.fin x hx0 (fun hm => hn (List.mem_cons_of_mem _ hm)) z hz
    refine ⟨zi z h1, fun hm => ?_⟩
    rcases List.mem_cons.1 hm with e | hm
    · exact nz z h1 e
    · exact h2 hm
  · intro g hg y hy hle
    rcases (gr g).1 hg with rfl | hg'
    · rcases List.mem_cons.1 hy with rfl | hy
      · exact Reach.refl _ _
      · have hle : upd s.idx g (s.cnt + 1) g ≤ upd s.idx g (s.cnt + 1) y := hle
        rw [it, ix y (ne y hy)] at hle
        have := h.idx_le y
        omega
    · rcases List.mem_cons.1 hy with rfl | hy
      · exact reach_t g hg'
      · have hle : upd s.idx t (s.cnt + 1) g ≤ upd s.idx t (s.cnt + 1) y := hle
        rw [ix g (ne g (h.gray_stk hg')), ix y (ne y hy)] at hle
        exact h.down g hg' y hy hle
  · intro y hy
    rcases List.mem_cons.1 hy with rfl | hy
    · exact ⟨y, (gr y).2 (.inl rfl), Nat.le_refl _, Reach.refl _ _⟩
    · obtain ⟨g, hg, hle, hr⟩ := h.up y hy
      refine ⟨g, (gr g).2 (.inr hg), ?_, hr⟩
      show upd s.idx t (s.cnt + 1) g ≤ upd s.idx t (s.cnt + 1) y
      rw [ix g (ne g (h.gray_stk hg)), ix y (ne y hy)]; exact hle
  · intro y hy z hp hz g hg hle hmax
    by_cases e : y = t
    · subst e; exact (proc_new ng' hp).elim
    · have hys : y ∈ s.stk := by
        rcases List.mem_cons.1 hy with h1 | h1
        · exact absurd h1 e
        · exact h1
      have hp := proc_visit ng' e hp
      have hle : upd s.idx t (s.cnt + 1) g ≤ upd s.idx t (s.cnt + 1) y := hle
      have hgt : g ≠ t := fun e' => by
        subst e'
        rw [it, ix y e] at hle
        have := h.idx_le y; omega
      have hg' : gray s.wlk g := by rcases (gr g).1 hg with h1 | h1; exact absurd h1 hgt; exact h1
      rw [ix g hgt, ix y e] at hle
      show upd s.low t (s.cnt + 1) g ≤ upd s.idx t (s.cnt + 1) z
      rw [lx g hgt]
      have hlg := (h.lowD g hg').1
      have hgc := h.idx_le g
      rcases proc_comes hc hp with hp | ⟨rfl, _⟩
      · rcases List.mem_cons.1 hz with rfl | hz
        · rw [it]; omega
        · rw [ix z (ne z hz)]
          refine h.lowC y hys z hp hz g hg' hle fun g' hg'' hle' => ?_
          have := hmax g' ((gr g').2 (.inr hg'')) (by show upd s.idx t (s.cnt + 1) g' ≤ upd s.idx t (s.cnt + 1) y; rw [ix g' (ne g' (h.gray_stk hg'')), ix y e]; exact hle')
          have this : upd s.idx t (s.cnt + 1) g' ≤ upd s.idx t (s.cnt + 1) g := this
          rw [ix g' (ne g' (h.gray_stk hg'')), ix g hgt] at this
          exact this
      · rw [it]; omega
  · intro g hg
    by_cases e : g = t
    · subst e
      refine ⟨by show upd s.low g (s.cnt + 1) g ≤ upd s.idx g (s.cnt + 1) g; rw [it, lt']; exact Nat.le_refl _, g, List.mem_cons_self, ?_, Reach.refl _ _⟩
      show upd s.idx g (s.cnt + 1) g = upd s.low g (s.cnt + 1) g
      rw [it, lt']
    · have hg' : gray s.wlk g := by rcases (gr g).1 hg with h1 | h1; exact absurd h1 e; exact h1
      obtain ⟨h1, z, hz, h2, h3⟩ := h.lowD g hg'
      refine ⟨by show upd s.low t (s.cnt + 1) g ≤ upd s.idx t (s.cnt + 1) g; rw [ix g e, lx g e]; exact h1, z, List.mem_cons_of_mem _ hz, ?_, h3⟩
      show upd s.idx t (s.cnt + 1) z = upd s.low t (s.cnt + 1) g
      rw [lx g e, ix z (ne z hz)]; exact h2
  · intro c hcm
    obtain ⟨h1, h2, h3⟩ := h.c1 c hcm
    refine ⟨h1, h2, fun x hx => ?_⟩
    obtain ⟨h4, h5, h6⟩ := h3 x hx
    refine ⟨zi x h4, fun hm => ?_, h6⟩
    rcases List.mem_cons.1 hm with e | hm
    · exact nz x h4 e
    · exact h5 hm
  · intro x hx hn hy
    have hxt : x ≠ t := fun e => hn (e ▸ List.mem_cons_self)
    have hx0 : s.idx x ≠ 0 := by rcases iz x hx with h1 | h1; exact absurd h1 hxt; exact h1
    exact h.c2 x hx0 (fun hm => hn (List.mem_cons_of_mem _ hm)) hy
  · exact h.c3

end Go.Proofs.Qxb6603228a.Tj
