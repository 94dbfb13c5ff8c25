/-
  PLAIN MATHEMATICS: the invariant and the count of nodes that the walk has come to.
-/
import Derived.Test.Qxb6603228aSearch
namespace Go.Proofs.Qxb6603228a.Tj

theorem left_congr {f g : Nat → Bool} (h : ∀ x, f x = g x) : ∀ n, left f n = left g n
  | 0 => rfl
  | n + 1 => by show left f n + _ = left g n + _; rw [left_congr h n, h n]

structure TGood (A : Nat → List Nat) (n r : Nat) (s : St) : Prop where
  inv : Inv A n s
  cnt : s.cnt + left (fun x => decide (s.idx x ≠ 0)) n = n
  old : ∀ x, x < r → s.idx x ≠ 0
  few : s.cmp.length + s.stk.length ≤ s.cnt

theorem TGood.init (A : Nat → List Nat) (n : Nat) : TGood A n 0 St.init :=
  ⟨init_inv A n, by
    have e : left (fun x => decide (St.init.idx x ≠ 0)) n = left (fun _ => false) n := left_congr (fun x => by simp [St.init]) n
    rw [e, left_all]
    show 0 + n = n
    omega, fun x hx => by omega, Nat.le_refl _⟩

theorem TGood.visit {A : Nat → List Nat} {n r t : Nat} {s : St} (h : TGood A n r s) (ht : t < n) (h0 : s.idx t = 0) (hc : Comes A s.wlk t) : TGood A n r (Tj.visit s t) := by
  refine ⟨visit_inv h.inv ht h0 hc, ?_, fun x hx => ?_, ?_⟩
  · have e : left (fun x => decide ((Tj.visit s t).idx x ≠ 0)) n = left (upd (fun x => decide (s.idx x ≠ 0)) t true) n := left_congr (fun x => by
      show decide (upd s.idx t (s.cnt + 1) x ≠ 0) = _
      by_cases e : x = t
      · subst e; simp [upd]
      · simp [upd, e]) n
    have h1 := left_in (seen := fun x => decide (s.idx x ≠ 0)) (t := t) (by simp [h0]) ht
    have h2 := h.cnt
    rw [e]
    show s.cnt + 1 + _ = n
    omega
  · show upd s.idx t (s.cnt + 1) x ≠ 0
    by_cases e : x = t
    · subst e; rw [upd_same]; omega
    · rw [upd_other _ _ e]; exact h.old x hx
  · have := h.few
    show s.cmp.length + (s.stk.length + 1) ≤ s.cnt + 1
    omega

theorem TGood.cnt_le {A : Nat → List Nat} {n r : Nat} {s : St} (h : TGood A n r s) : s.cnt ≤ n := by have := h.cnt; omega

theorem TGood.follow {A : Nat → List Nat} {n r v k to lo : Nat} {s : St} {rest : List (Nat × Nat)} (h : TGood A n r s) (hw : s.wlk = (v, k) :: rest) (hk : (A v)[k]? = some to) (h0 : s.idx to ≠ 0)
    (hlo : (to ∈ s.stk ∧ lo = min (s.low v) (s.idx to)) ∨ (to ∉ s.stk ∧ lo = s.low v)) : TGood A n r (Tj.follow s v k rest lo) :=
  ⟨follow_inv h.inv hw hk h0 hlo, h.cnt, h.old, h.few⟩

theorem TGood.popped {A : Nat → List Nat} {n r v k : Nat} {s : St} {rest : List (Nat × Nat)} (h : TGood A n r s) (hw : s.wlk = (v, k) :: rest) (hk : k = (A v).length) (hlow : s.low v ≠ s.idx v) : TGood A n r (Tj.popped s v rest) :=
  ⟨popped_inv h.inv hw hk hlow, h.cnt, h.old, h.few⟩

theorem TGood.emitted {A : Nat → List Nat} {n r v k : Nat} {s : St} {rest : List (Nat × Nat)} {S stk' : List Nat} (h : TGood A n r s) (hw : s.wlk = (v, k) :: rest) (hk : k = (A v).length) (hlow : s.low v = s.idx v) (hs : s.stk = S ++ v :: stk') : TGood A n r (Tj.emitted s v rest S stk') :=
  ⟨emitted_inv h.inv hw hk hlow hs, h.cnt, h.old, by
    have h1 := h.few
    rw [hs] at h1
    simp only [List.length_append, List.length_cons] at h1
    show (more s.cmp (S ++ [v])).length + stk'.length ≤ s.cnt
    unfold more
    split
    · simp only [List.length_append, List.length_cons, List.length_nil]; omega
    · omega⟩

/-- The last frame's node is a component's root. -/
theorem TGood.last {A : Nat → List Nat} {n r v k : Nat} {s : St} (h : TGood A n r s) (hw : s.wlk = [(v, k)]) (hk : k = (A v).length) : s.low v = s.idx v := by
  by_cases e : s.low v = s.idx v
  · exact e
  · have h1 := popped_inv h.inv hw hk e
    have h2 := h1.stk_nil rfl
    have h3 : v ∈ s.stk := h.inv.gray_stk ⟨k, by rw [hw]; exact List.mem_cons_self⟩
    have h4 : s.stk = [] := h2
    rw [h4] at h3
    cases h3

theorem TGood.split {A : Nat → List Nat} {n r v k : Nat} {s : St} {rest : List (Nat × Nat)} (h : TGood A n r s) (hw : s.wlk = (v, k) :: rest) : ∃ S stk', s.stk = S ++ v :: stk' ∧ v ∉ S ∧ s.stk.Nodup := by
  have hv : v ∈ s.stk := h.inv.gray_stk ⟨k, by rw [hw]; exact List.mem_cons_self⟩
  have hnd : s.stk.Nodup := h.inv.srt.imp (fun {a b} hab e => by subst e; omega)
  obtain ⟨S, stk', e⟩ := List.append_of_mem hv
  refine ⟨S, stk', e, fun hm => ?_, hnd⟩
  rw [e, List.nodup_append] at hnd
  exact hnd.2.2 v hm v List.mem_cons_self rfl

theorem TGood.top {A : Nat → List Nat} {n r v k : Nat} {s : St} {rest : List (Nat × Nat)} (h : TGood A n r s) (hw : s.wlk = (v, k) :: rest) : v < n ∧ k ≤ (A v).length := by
  have h1 := h.inv.wsub (v, k) (by rw [hw]; exact List.mem_cons_self)
  exact ⟨h.inv.idx_lt v (h.inv.stk_idx v h1.1), h1.2⟩
end Go.Proofs.Qxb6603228a.Tj
