/-
  PLAIN MATHEMATICS: the other steps: an edge to a node that was seen; a frame that is done.
-/
import Derived.Test.Qxb6603228aTarjan
namespace Go.Proofs.Qxb6603228a.Tj

/-- An edge to a node that the walk has come to before. -/
def follow (s : St) (v k : Nat) (rest : List (Nat × Nat)) (lo : Nat) : St := { s with low := upd s.low v lo, wlk := (v, k + 1) :: rest }

theorem follow_inv {A : Nat → List Nat} {n : Nat} {s : St} (h : Inv A n s) {v k to lo : Nat} {rest : List (Nat × Nat)} (hw : s.wlk = (v, k) :: rest) (hk : (A v)[k]? = some to) (h0 : s.idx to ≠ 0)
    (hlo : (to ∈ s.stk ∧ lo = min (s.low v) (s.idx to)) ∨ (to ∉ s.stk ∧ lo = s.low v)) : Inv A n (follow s v k rest lo) := by
  have hv : gray s.wlk v := ⟨k, by rw [hw]; exact List.mem_cons_self⟩
  have gr : ∀ g, gray ((v, k + 1) :: rest) g ↔ gray s.wlk g := fun g => by rw [hw, gray_cons, gray_cons]
  have hkl : k < (A v).length := by
    rcases Nat.lt_or_ge k (A v).length with h1 | h1
    · exact h1
    · rw [List.getElem?_eq_none h1] at hk; cases hk
  have hle : lo ≤ s.low v := by
    rcases hlo with ⟨_, e⟩ | ⟨_, e⟩
    · rw [e]; exact Nat.min_le_left _ _
    · rw [e]; exact Nat.le_refl _
  have pr : ∀ y z, Proc A ((v, k + 1) :: rest) y z → Proc A s.wlk y z ∨ (y = v ∧ z = to) := fun y z hp => by
    rw [hw]; exact proc_adv hk hp
  refine ⟨h.idx_lt, h.stk_idx, h.idx_le, h.srt, ?_, ?_, ?_, h.fin, ?_, ?_, ?_, ?_, h.c1, h.c2, h.c3⟩
  · have := h.wsrt
    rw [hw] at this
    rw [List.pairwise_cons] at this
    show ((v, k + 1) :: rest).Pairwise _
    rw [List.pairwise_cons]
    exact ⟨this.1, this.2⟩
  · intro f hf
    have hsub := h.wsub
    rw [hw] at hsub
    rcases List.mem_cons.1 hf with rfl | hf
    · exact ⟨(hsub (v, k) List.mem_cons_self).1, hkl⟩
    · exact hsub f (List.mem_cons_of_mem _ hf)
  · intro x z hx hp
    rcases pr x z hp with hp | ⟨_, rfl⟩
    · exact h.seen x z hx hp
    · exact h0
  · intro g hg; exact h.down g ((gr g).1 hg)
  · intro y hy
    obtain ⟨g, hg, r⟩ := h.up y hy
    exact ⟨g, (gr g).2 hg, r⟩
  · intro y hy z hp hz g hg hgy hmax
    have hg' := (gr g).1 hg
    have hmax' : ∀ g', gray s.wlk g' → s.idx g' ≤ s.idx y → s.idx g' ≤ s.idx g := fun g' hg'' => hmax g' ((gr g').2 hg'')
    show upd s.low v lo g ≤ s.idx z
    rcases pr y z hp with hp | ⟨e1, e2⟩
    · have h1 := h.lowC y hy z hp hz g hg' hgy hmax'
      by_cases e : g = v
      · rw [e] at h1 ⊢; rw [upd_same]; omega
      · rw [upd_other _ _ e]; exact h1
    · have hgv : g = v := by
        have h1 : s.idx v ≤ s.idx g := hmax' v hv (by rw [e1]; exact Nat.le_refl _)
        have h2 := h.top_max hw hg'
        exact h.inj (h.gray_stk hg') (h.gray_stk hv) (by omega)
      rw [hgv, upd_same, e2]
      rcases hlo with ⟨_, e⟩ | ⟨hn, _⟩
      · rw [e]; exact Nat.min_le_right _ _
      · exact absurd (e2 ▸ hz) hn
  · intro g hg
    have hg' := (gr g).1 hg
    obtain ⟨h1, z, hz, h2, h3⟩ := h.lowD g hg'
    by_cases e : g = v
    · subst e
      show upd s.low g lo g ≤ s.idx g ∧ ∃ z ∈ s.stk, s.idx z = upd s.low g lo g ∧ Reach A g z
      rw [upd_same]
      refine ⟨by omega, ?_⟩
      rcases hlo with ⟨hm, e⟩ | ⟨_, e⟩
      · rcases Nat.le_total (s.low g) (s.idx to) with hh | hh
        · exact ⟨z, hz, by rw [h2, e, Nat.min_eq_left hh], h3⟩
        · exact ⟨to, hm, by rw [e, Nat.min_eq_right hh], Reach.edge (List.mem_of_getElem? hk)⟩
      · exact ⟨z, hz, by rw [h2, e], h3⟩
    · show upd s.low v lo g ≤ s.idx g ∧ ∃ z ∈ s.stk, s.idx z = upd s.low v lo g ∧ Reach A g z
      rw [upd_other _ _ e]
      exact ⟨h1, z, hz, h2, h3⟩

/-- The parent's low behind a frame that is done. -/
def lift (s : St) (v : Nat) : List (Nat × Nat) → (Nat → Nat)
  | [] => s.low
  | (p, _) :: _ => upd s.low p (min (s.low p) (s.low v))

/-- What is known of the top frame once all its edges have been followed. -/
theorem proc_done {A : Nat → List Nat} {v k : Nat} {rest : List (Nat × Nat)} (hk : k = (A v).length) (hn : ¬ gray rest v) {y z : Nat} (h : Proc A rest y z) : Proc A ((v, k) :: rest) y z := by
  rcases h with ⟨j, hj, hz⟩ | ⟨hg, hz⟩
  · exact .inl ⟨j, List.mem_cons_of_mem _ hj, hz⟩
  · by_cases e : y = v
    · subst e
      exact .inl ⟨k, List.mem_cons_self, by rw [hk, List.take_length]; exact hz⟩
    · refine .inr ⟨fun hg' => ?_, hz⟩
      rcases gray_cons.1 hg' with h1 | h1
      · exact e h1
      · exact hg h1

section
variable {A : Nat → List Nat} {n : Nat} {s : St} {v k : Nat} {rest : List (Nat × Nat)}

theorem lift_le (h : Inv A n s) (hw : s.wlk = (v, k) :: rest) {g : Nat} (_hg : gray rest g) : lift s v rest g ≤ s.low g := by
  have _ := h.wsrt
  have _ := hw
  cases rest with
  | nil => exact Nat.le_refl _
  | cons f r =>
    obtain ⟨p, kp⟩ := f
    show upd s.low p (min (s.low p) (s.low v)) g ≤ s.low g
    by_cases e : g = p
    · subst e; rw [upd_same]; exact Nat.min_le_left _ _
    · rw [upd_other _ _ e]; exact Nat.le_refl _

/-- The greatest gray node of the rest at or below y, where the top's segment holds y. -/
theorem lift_low (h : Inv A n s) (hw : s.wlk = (v, k) :: rest) {g : Nat} (hg : gray rest g) (hmax : ∀ g', gray rest g' → s.idx g' ≤ s.idx g) : lift s v rest g ≤ s.low v := by
  cases rest with
  | nil => obtain ⟨j, hj⟩ := hg; cases hj
  | cons f r =>
    obtain ⟨p, kp⟩ := f
    have hp : gray ((p, kp) :: r) p := gray_cons.2 (.inl rfl)
    have e : g = p := by
      have h1 := hmax p hp
      have h2 : s.idx g ≤ s.idx p := by
        rcases gray_cons.1 hg with e | hr
        · rw [e]; exact Nat.le_refl _
        · obtain ⟨j, hj⟩ := hr
          have := h.wsrt
          rw [hw, List.pairwise_cons, List.pairwise_cons] at this
          exact Nat.le_of_lt (this.2.1 _ hj)
      refine h.inj (h.gray_stk ?_) (h.gray_stk ?_) (by omega)
      · rw [hw]; exact gray_cons.2 (.inr hg)
      · rw [hw]; exact gray_cons.2 (.inr hp)
    subst e
    show upd s.low g (min (s.low g) (s.low v)) g ≤ s.low v
    rw [upd_same]; exact Nat.min_le_right _ _

theorem lift_D (h : Inv A n s) (hw : s.wlk = (v, k) :: rest) {g : Nat} (hg : gray rest g) : lift s v rest g ≤ s.idx g ∧ ∃ z ∈ s.stk, s.idx z = lift s v rest g ∧ Reach A g z := by
  have gw : ∀ x, gray rest x → gray s.wlk x := fun x hx => by rw [hw]; exact gray_cons.2 (.inr hx)
  have hv : gray s.wlk v := by rw [hw]; exact gray_cons.2 (.inl rfl)
  obtain ⟨h1, z, hz, h2, h3⟩ := h.lowD g (gw g hg)
  have hl := lift_le h hw hg
  refine ⟨by omega, ?_⟩
  cases rest with
  | nil => obtain ⟨j, hj⟩ := hg; cases hj
  | cons f r =>
    obtain ⟨p, kp⟩ := f
    show ∃ z ∈ s.stk, s.idx z = upd s.low p (min (s.low p) (s.low v)) g ∧ Reach A g z
    by_cases e : g = p
    · subst e
      rw [upd_same]
      rcases Nat.le_total (s.low g) (s.low v) with hh | hh
      · exact ⟨z, hz, by rw [h2, Nat.min_eq_left hh], h3⟩
      · obtain ⟨_, z', hz', h2', h3'⟩ := h.lowD v hv
        refine ⟨z', hz', by rw [h2', Nat.min_eq_right hh], Reach.trans ?_ h3'⟩
        exact h.down g (gw g hg) v (h.gray_stk hv) (Nat.le_of_lt (h.rest_lt hw hg))
    · rw [upd_other _ _ e]
      exact ⟨z, hz, h2, h3⟩
end

/-- A frame is done, and its node is no component's root. -/
def popped (s : St) (v : Nat) (rest : List (Nat × Nat)) : St := { s with low := lift s v rest, wlk := rest }

theorem popped_inv {A : Nat → List Nat} {n : Nat} {s : St} (h : Inv A n s) {v k : Nat} {rest : List (Nat × Nat)} (hw : s.wlk = (v, k) :: rest) (hk : k = (A v).length) (hlow : s.low v ≠ s.idx v) : Inv A n (popped s v rest) := by
  have hv : gray s.wlk v := by rw [hw]; exact gray_cons.2 (.inl rfl)
  have gw : ∀ x, gray rest x → gray s.wlk x := fun x hx => by rw [hw]; exact gray_cons.2 (.inr hx)
  have hn := h.top_not_rest hw
  have pr : ∀ y z, Proc A rest y z → Proc A s.wlk y z := fun y z hp => by rw [hw]; exact proc_done hk hn hp
  -- the node to which the top frame's low leads, and a gray node of the rest below it
  obtain ⟨hl, z0, hz0, e0, r0⟩ := h.lowD v hv
  have back : ∃ g, gray rest g ∧ s.idx g < s.idx v ∧ Reach A v g := by
    obtain ⟨g, hg, hle, hr⟩ := h.up z0 hz0
    have hlt : s.idx g < s.idx v := by omega
    refine ⟨g, ?_, hlt, r0.trans hr⟩
    rw [hw] at hg
    rcases gray_cons.1 hg with e | hg
    · rw [e] at hlt; omega
    · exact hg
  refine ⟨h.idx_lt, h.stk_idx, h.idx_le, h.srt, ?_, ?_, ?_, h.fin, ?_, ?_, ?_, ?_, h.c1, h.c2, h.c3⟩
  · have := h.wsrt
    rw [hw, List.pairwise_cons] at this
    exact this.2
  · intro f hf
    exact h.wsub f (by rw [hw]; exact List.mem_cons_of_mem _ hf)
  · intro x z hx hp
    exact h.seen x z hx (pr x z hp)
  · intro g hg; exact h.down g (gw g hg)
  · intro y hy
    obtain ⟨g, hg, hle, hr⟩ := h.up y hy
    rw [hw] at hg
    rcases gray_cons.1 hg with e | hg
    · obtain ⟨g', hg', hlt, hr'⟩ := back
      rw [e] at hle hr
      exact ⟨g', hg', by show s.idx g' ≤ s.idx y; omega, hr.trans hr'⟩
    · exact ⟨g, hg, hle, hr⟩
  · intro y hy z hp hz g hg hgy hmax
    show lift s v rest g ≤ s.idx z
    have hp' := pr y z hp
    by_cases hyv : s.idx v ≤ s.idx y
    · have h1 := h.lowC y hy z hp' hz v hv hyv (fun g' hg' _ => h.top_max hw hg')
      have h2 := lift_low h hw hg (fun g' hg' => hmax g' hg' (by have := h.rest_lt hw hg'; show s.idx g' ≤ s.idx y; omega))
      omega
    · have h1 := h.lowC y hy z hp' hz g (gw g hg) hgy (fun g' hg' hle => by
        rw [hw] at hg'
        rcases gray_cons.1 hg' with e | hg'
        · rw [e] at hle; omega
        · exact hmax g' hg' hle)
      have h2 := lift_le h hw hg
      omega
  · intro g hg
    exact lift_D h hw hg

/-! ### A component's root is done -/

theorem sorted_le (l : List Nat) : (l.mergeSort (fun a b => decide (a ≤ b))).Pairwise (fun a b => a ≤ b) := by
  have := List.pairwise_mergeSort (le := fun a b : Nat => decide (a ≤ b)) (fun a b c h1 h2 => by simp at *; omega) (fun a b => by simp; omega) l
  exact this.imp (fun h => by simpa using h)

theorem sorted_lt {l : List Nat} (h : l.Nodup) : (l.mergeSort (fun a b => decide (a ≤ b))).Pairwise (fun a b => a < b) := by
  have h1 := sorted_le l
  have h2 : (l.mergeSort (fun a b => decide (a ≤ b))).Nodup := (List.mergeSort_perm l _).nodup_iff.2 h
  have h3 := h1.and h2
  exact h3.imp (fun ⟨a, b⟩ => Nat.lt_of_le_of_ne a b)

/-- What is handed out: nothing of a lone node. -/
def more (c : List (List Nat)) (found : List Nat) : List (List Nat) := if 1 < found.length then c ++ [found.mergeSort (fun a b => decide (a ≤ b))] else c

def emitted (s : St) (v : Nat) (rest : List (Nat × Nat)) (S stk' : List Nat) : St := { s with low := lift s v rest, wlk := rest, stk := stk', cmp := more s.cmp (S ++ [v]) }

theorem emitted_inv {A : Nat → List Nat} {n : Nat} {s : St} (h : Inv A n s) {v k : Nat} {rest : List (Nat × Nat)} {S stk' : List Nat} (hw : s.wlk = (v, k) :: rest) (hk : k = (A v).length) (hlow : s.low v = s.idx v) (hs : s.stk = S ++ v :: stk') : Inv A n (emitted s v rest S stk') := by
  have hv : gray s.wlk v := by rw [hw]; exact gray_cons.2 (.inl rfl)
  have gw : ∀ x, gray rest x → gray s.wlk x := fun x hx => by rw [hw]; exact gray_cons.2 (.inr hx)
  have hn := h.top_not_rest hw
  have pr : ∀ y z, Proc A rest y z → Proc A s.wlk y z := fun y z hp => by rw [hw]; exact proc_done hk hn hp
  have srt := h.srt
  rw [hs, List.pairwise_append, List.pairwise_cons] at srt
  obtain ⟨srtS, ⟨srtv, srt'⟩, srtx⟩ := srt
  -- who lies where
  have mem : ∀ x, x ∈ s.stk ↔ (x ∈ S ∨ x = v) ∨ x ∈ stk' := fun x => by rw [hs]; simp [or_assoc]
  have hi : ∀ x, (x ∈ S ∨ x = v) → s.idx v ≤ s.idx x := fun x hx => by
    rcases hx with hx | rfl
    · exact Nat.le_of_lt (srtx x hx v List.mem_cons_self)
    · exact Nat.le_refl _
  have lo : ∀ x, x ∈ stk' → s.idx x < s.idx v := fun x hx => srtv x hx
  have sub' : ∀ x, x ∈ stk' → x ∈ s.stk := fun x hx => (mem x).2 (.inr hx)
  have off : ∀ x, (x ∈ S ∨ x = v) → x ∉ stk' := fun x hx hm => by have := hi x hx; have := lo x hm; omega
  have grest : ∀ g, gray rest g → g ∈ stk' := fun g hg => by
    rcases (mem g).1 (h.gray_stk (gw g hg)) with h1 | h1
    · have := hi g h1; have := h.rest_lt hw hg; omega
    · exact h1
  -- the segment's edges stay in it or lead to what is finished
  have edge : ∀ y, (y ∈ S ∨ y = v) → ∀ z ∈ A y, s.idx z ≠ 0 ∧ z ∉ stk' := fun y hy z hz => by
    have hys : y ∈ s.stk := (mem y).2 (.inl hy)
    have hp : Proc A s.wlk y z := by
      rw [hw]
      by_cases e : y = v
      · subst e; exact .inl ⟨k, List.mem_cons_self, by rw [hk, List.take_length]; exact hz⟩
      · refine .inr ⟨fun hg => ?_, hz⟩
        rcases gray_cons.1 hg with h1 | h1
        · exact e h1
        · exact off y hy (grest y h1)
    refine ⟨h.seen y z (h.stk_idx y hys) hp, fun hm => ?_⟩
    have h1 := h.lowC y hys z hp (sub' z hm) v hv (hi y hy) (fun g' hg' _ => h.top_max hw hg')
    have h2 := lo z hm
    omega
  -- each node of the segment reaches v, and v reaches it
  have toV : ∀ y, (y ∈ S ∨ y = v) → Reach A y v := fun y hy => by
    obtain ⟨g, hg, hle, hr⟩ := h.up y ((mem y).2 (.inl hy))
    exact hr.trans (h.down g hg v (h.gray_stk hv) (h.top_max hw hg))
  have fromV : ∀ y, (y ∈ S ∨ y = v) → Reach A v y := fun y hy => h.down v hv y ((mem y).2 (.inl hy)) (hi y hy)
  have v0 : s.idx v ≠ 0 := h.stk_idx v (h.gray_stk hv)
  -- whatever a node of the segment reaches lies in it or is finished
  have inside : ∀ y, (y ∈ S ∨ y = v) → ∀ x, Reach A y x → (x ∈ S ∨ x = v) ∨ (s.idx x ≠ 0 ∧ x ∉ s.stk) := fun y hy x hr => by
    refine hr (fun x => (x ∈ S ∨ x = v) ∨ (s.idx x ≠ 0 ∧ x ∉ s.stk)) (.inl hy) ?_
    intro x hx z hz
    rcases hx with hx | ⟨hx1, hx2⟩
    · obtain ⟨e1, e2⟩ := edge x hx z hz
      by_cases hzs : z ∈ s.stk
      · rcases (mem z).1 hzs with h1 | h1
        · exact .inl h1
        · exact absurd h1 e2
      · exact .inr ⟨e1, hzs⟩
    · exact .inr (h.fin x hx1 hx2 z hz)
  have finReach : ∀ y, s.idx y ≠ 0 → y ∉ s.stk → ∀ x, Reach A y x → s.idx x ≠ 0 ∧ x ∉ s.stk := fun y h1 h2 x hr =>
    hr (fun x => s.idx x ≠ 0 ∧ x ∉ s.stk) ⟨h1, h2⟩ (fun x hx z hz => h.fin x hx.1 hx.2 z hz)
  have scc : ∀ y, (y ∈ S ∨ y = v) → ∀ x, (x ∈ S ∨ x = v) ↔ Mut A y x := fun y hy x => by
    constructor
    · intro hx
      exact ⟨(toV y hy).trans (fromV x hx), (toV x hx).trans (fromV y hy)⟩
    · rintro ⟨h1, h2⟩
      rcases inside y hy x h1 with h3 | ⟨h3, h4⟩
      · exact h3
      · exact absurd ((mem y).2 (.inl hy)) (finReach x h3 h4 y h2).2
  have fnd : ∀ x, x ∈ S ++ [v] ↔ (x ∈ S ∨ x = v) := fun x => by simp
  have nod : (S ++ [v]).Nodup := by
    rw [List.nodup_append]
    refine ⟨srtS.imp (fun {a b} hab e => by subst e; omega), by simp, ?_⟩
    intro a ha b hb e
    simp at hb
    subst hb
    subst e
    have := srtx a ha a List.mem_cons_self
    omega
  have cfin : ∀ c ∈ s.cmp, ∀ x ∈ c, s.idx x ≠ 0 ∧ x ∉ s.stk := fun c hc x hx => ⟨((h.c1 c hc).2.2 x hx).1, ((h.c1 c hc).2.2 x hx).2.1⟩
  have cnew : ∀ c, c ∈ more s.cmp (S ++ [v]) ↔ c ∈ s.cmp ∨ (1 < (S ++ [v]).length ∧ c = (S ++ [v]).mergeSort (fun a b => decide (a ≤ b))) := fun c => by
    unfold more
    split
    · rename_i hh
      rw [List.mem_append, List.mem_singleton]
      exact ⟨fun e => e.elim .inl (fun e => .inr ⟨hh, e⟩), fun e => e.elim .inl (fun e => .inr e.2)⟩
    · rename_i hh
      exact ⟨.inl, fun e => e.elim id (fun e => absurd e.1 hh)⟩
  have smem : ∀ x, x ∈ (S ++ [v]).mergeSort (fun a b => decide (a ≤ b)) ↔ (x ∈ S ∨ x = v) := fun x => by rw [List.mem_mergeSort, fnd]
  refine ⟨h.idx_lt, fun x hx => h.stk_idx x (sub' x hx), h.idx_le, srt', ?_, ?_, ?_, ?_, ?_, ?_, ?_, ?_, ?_, ?_, ?_⟩
  · have := h.wsrt
    rw [hw, List.pairwise_cons] at this
    exact this.2
  · intro f hf
    exact ⟨grest f.1 ⟨f.2, hf⟩, (h.wsub f (by rw [hw]; exact List.mem_cons_of_mem _ hf)).2⟩
  · intro x z hx hp
    exact h.seen x z hx (pr x z hp)
  · intro x hx hxn z hz
    by_cases hxs : x ∈ s.stk
    · rcases (mem x).1 hxs with h1 | h1
      · exact edge x h1 z hz
      · exact absurd h1 hxn
    · obtain ⟨h1, h2⟩ := h.fin x hx hxs z hz
      exact ⟨h1, fun hm => h2 (sub' z hm)⟩
  · intro g hg y hy; exact h.down g (gw g hg) y (sub' y hy)
  · intro y hy
    obtain ⟨g, hg, hle, hr⟩ := h.up y (sub' y hy)
    rw [hw] at hg
    rcases gray_cons.1 hg with e | hg
    · rw [e] at hle; have := lo y hy; omega
    · exact ⟨g, hg, hle, hr⟩
  · intro y hy z hp hz g hg hgy hmax
    show lift s v rest g ≤ s.idx z
    have hlt := lo y hy
    have h1 := h.lowC y (sub' y hy) z (pr y z hp) (sub' z hz) g (gw g hg) hgy (fun g' hg' hle => by
      rw [hw] at hg'
      rcases gray_cons.1 hg' with e | hg'
      · rw [e] at hle; omega
      · exact hmax g' hg' hle)
    have h2 := lift_le h hw hg
    omega
  · intro g hg
    obtain ⟨h1, z, hz, h2, h3⟩ := lift_D h hw hg
    refine ⟨h1, z, ?_, h2, h3⟩
    rcases (mem z).1 hz with h4 | h4
    · have := hi z h4
      have := h.rest_lt hw hg
      omega
    · exact h4
  · intro c hc
    rcases (cnew c).1 hc with hc | ⟨hl, rfl⟩
    · obtain ⟨h1, h2, h3⟩ := h.c1 c hc
      refine ⟨h1, h2, fun x hx => ?_⟩
      obtain ⟨h4, h5, h6⟩ := h3 x hx
      exact ⟨h4, fun hm => h5 (sub' x hm), h6⟩
    · refine ⟨sorted_lt nod, by rw [List.length_mergeSort]; omega, fun x hx => ?_⟩
      have hx' := (smem x).1 hx
      refine ⟨h.stk_idx x ((mem x).2 (.inl hx')), off x hx', fun y => ?_⟩
      rw [smem, scc x hx']
  · intro x hx hxn hy
    by_cases hxs : x ∈ s.stk
    · rcases (mem x).1 hxs with h1 | h1
      · obtain ⟨y, hne, hm⟩ := hy
        have hys : y ∈ S ∨ y = v := (scc x h1 y).2 hm
        refine ⟨_, (cnew _).2 (.inr ⟨?_, rfl⟩), (smem x).2 h1⟩
        have hS : S ≠ [] := fun e => by
          rw [e] at h1 hys
          simp at h1 hys
          exact hne (by rw [hys, h1])
        have : 0 < S.length := by
          cases S with
          | nil => exact absurd rfl hS
          | cons a l => simp
        simp
        omega
      · exact absurd h1 hxn
    · obtain ⟨c, hc, hxc⟩ := h.c2 x hx hxs hy
      exact ⟨c, (cnew c).2 (.inl hc), hxc⟩
  · show (more s.cmp (S ++ [v])).Pairwise _
    unfold more
    split
    · rw [List.pairwise_append]
      refine ⟨h.c3, by simp, ?_⟩
      intro c hc d hd x hx hxd
      simp at hd
      rw [hd] at hxd
      have h1 := (smem x).1 hxd
      exact (cfin c hc x hx).2 ((mem x).2 (.inl h1))
    · exact h.c3

/-! ### What the walk leaves -/

structure CompsOK (A : Nat → List Nat) (n : Nat) (C : List (List Nat)) : Prop where
  one : ∀ c ∈ C, c.Pairwise (fun a b => a < b) ∧ 2 ≤ c.length ∧ ∀ x ∈ c, x < n ∧ ∀ y, y ∈ c ↔ Mut A x y
  all : ∀ x, x < n → (∃ y, y ≠ x ∧ Mut A x y) → ∃ c ∈ C, x ∈ c
  apart : C.Pairwise (fun c d => ∀ x ∈ c, x ∉ d)

theorem Inv.comps {A : Nat → List Nat} {n : Nat} {s : St} (h : Inv A n s) (hw : s.wlk = []) (hall : ∀ x, x < n → s.idx x ≠ 0) : CompsOK A n s.cmp := by
  have hs := h.stk_nil hw
  refine ⟨fun c hc => ?_, fun x hx hy => h.c2 x (hall x hx) (by rw [hs]; simp) hy, h.c3⟩
  obtain ⟨h1, h2, h3⟩ := h.c1 c hc
  exact ⟨h1, h2, fun x hx => ⟨h.idx_lt x (h3 x hx).1, (h3 x hx).2.2⟩⟩

end Go.Proofs.Qxb6603228a.Tj
