/-
  The row of FnComponentsAreExactlyTheCycles: a slice of slices of integers is opened; the law's walk does the rest.
-/
import Derived.Test.Qxb6603228aRows
import Derived.Test.Qxb6603228aLaw
import Derived.WalkKit
import Derived.ProofKit
import Derived.OpenShut
import Derived.ChangeOld
import Derived.Below
import Derived.Deep.Matrix
namespace Go.Proofs.Qxb6603228a.fnComponentsAreExactlyTheCycles
open Go.ChangeShapes Go.WideShapes Go.ChangeAt Go.RowKit
set_option linter.unusedVariables false

theorem add_none (b off i : Nat) : (⟨b, off, none⟩ : Addr).add i = ⟨b, off + i, none⟩ := by
  unfold Addr.add
  split
  · rename_i h; subst h; rfl
  · rfl

theorem add_zero (x : Addr) : x.add 0 = x := by simp [Addr.add]

/-- Cells that can be read lie in a block that stands, at no field of its own. -/
theorem at_all {w : World} {x : Addr} {n : Nat} {f : Nat → Value} (hn : 0 < n) (h : ∀ i, i < n → w.cell? (x.add i) = some (f i)) : ∃ b off, x = ⟨b, off, none⟩ ∧ b < w.heap.size ∧ ∀ i, i < n → w.cell? ⟨b, off + i, none⟩ = some (f i) := by
  have h0 := h 0 hn
  rw [add_zero] at h0
  obtain ⟨b, off, sp⟩ := x
  cases sp with
  | none =>
    refine ⟨b, off, rfl, ?_, fun i hi => by rw [← add_none]; exact h i hi⟩
    rcases Nat.lt_or_ge b w.heap.size with h1 | h1
    · exact h1
    · simp [World.cell?, Array.getElem?_eq_none h1] at h0
  | some s =>
    exfalso
    simp only [World.cell?] at h0
    split at h0
    · simp at h0
    · cases h0

theorem own : ownKnob Try.prog.godebug = none := by kernel_rfl
theorem laidOut : laidOutB Try.prog = true := by kernel_rfl

/-- The rows that came in, as the walk reads them. -/
theorem rows_at {w : World} {a : Addr} {len cap : Nat} {A : Nat → Option Addr} {L C : Nat → Nat} {Z : Nat → List Int} (hl : len ≤ cap)
    (h : ∀ r, r < cap → w.cell? (a.add r) = some (.slice (A r) (L r) (C r)) ∧ L r ≤ C r ∧ C r ≤ maxLen ∧ (Z r).length = C r ∧ (∀ n ∈ Z r, (Lit.int .i64 n).wf = true) ∧ (A r = none → C r = 0) ∧
        ∀ a', A r = some a' → 0 ≤ a'.block ∧ ∀ c, c < C r → w.cell? (a'.add c) = some (.int .i64 ((Z r).getD c 0))) :
    RowsAt w (Lt w.heap.size) (.slice (some a) len cap) ((List.range len).map fun r => (Z r).take (L r)) := by
  refine ⟨some a, cap, by simp, fun h0 => ?_⟩
  rw [List.length_map, List.length_range] at h0
  obtain ⟨b, off, rfl, hb, hc⟩ := at_all (f := fun r => .slice (A r) (L r) (C r)) h0 (fun i hi => (h i (by omega)).1)
  refine ⟨b, off, rfl, hb, fun r hr => ?_⟩
  rw [List.length_map, List.length_range] at hr
  obtain ⟨_, h2, h3, h4, _, h6, h7⟩ := h r (by omega)
  refine ⟨_, hc r hr, ?_⟩
  have e : ((List.range len).map fun r => (Z r).take (L r)).getD r [] = (Z r).take (L r) := by
    rw [List.getD_eq_getElem?_getD, List.getElem?_map, List.getElem?_range hr]; rfl
  rw [e]
  have hlen : ((Z r).take (L r)).length = L r := by rw [List.length_take]; omega
  refine ⟨A r, C r, by rw [hlen], fun hp => ?_⟩
  rw [hlen] at hp
  cases hA : A r with
  | none => have := h6 hA; omega
  | some x =>
    obtain ⟨b2, off2, rfl, hb2, hc2⟩ := at_all (n := C r) (f := fun c => .int .i64 ((Z r).getD c 0)) (by omega) ((h7 x hA).2)
    refine ⟨b2, off2, rfl, hb2, fun j hj => ?_⟩
    rw [hlen] at hj
    rw [hc2 j (by omega)]
    have e2 : ((Z r).take (L r)).getD j 0 = (Z r).getD j 0 := by
      rw [List.getD_eq_getElem?_getD, List.getD_eq_getElem?_getD, List.getElem?_take_of_lt hj]
    rw [e2]

set_option maxRecDepth 100000 in
theorem lifted (os : Os) (started : os.Started) (H : Type) (enc : TypeId × Value → H) :
    ReturnsInHanded {} Try.checked os 3 .any (Rows.fnComponentsAreExactlyTheCyclesSpec.pre6 enc Try.prog Try.f3 Rows.fnComponentsAreExactlyTheCyclesRow.domain false) (Rows.fnComponentsAreExactlyTheCyclesSpec.post enc Try.prog Try.f3 false true false false) := by
  refine returnsInHanded_of_change (C := Try.checked) own started (by kernel_rfl) Try.func3
    (ChangeSpec.witness6 (enc := enc) (C := Try.checked) false ⟨#[], #[.slice none 0 0], []⟩ 8 (by kernel_rfl) (by kernel_rfl) (by kernel_rfl) (by kernel_rfl)) ?_
  intro W base args ds gs before hval0 hW hcnd _
  have hval : ∀ (j : Nat) t v, Try.f3.params[j]? = some t → args[j]? = some v → Value.okWide Try.prog W .any base t v := hval0
  have hW' := hW
  obtain ⟨p, q, hA0, hV, rfl, hfz, hnd⟩ := hW
  have hA : DataW.TrodAll enc Try.prog W 0 (fun _ => true) true Try.f3.params.toList args.toList ds p := hA0
  rw [Try.params3] at hA hval
  obtain ⟨v0, vs0, d0, ds0, p0, q0, hargs, rfl, rfl, h0, r0⟩ := trodAll_cons hA
  obtain ⟨rfl, rfl, rfl⟩ := trodAll_nil r0
  obtain rfl : args = #[v0] := by cases args; simp_all
  obtain ⟨rfl, rfl⟩ := trodVars_none hV
  obtain ⟨a0, len0, cap0, rfl⟩ := okWide_slice Try.underlying22 (hval 0 22 v0 rfl rfl)
  have k0 := h0
  have lt0 : ∀ x ∈ p0, x.block < W.heap.size := by obtain ⟨m, hm⟩ := k0; exact DataW.trod_lt m _ _ _ hm
  obtain ⟨Z0, w0⟩ : ∃ Z, RowsAt W (Lt W.heap.size) (.slice a0 len0 cap0) Z := by
    obtain ⟨fuel, hf⟩ := h0
    rcases Go.Deep.open_int_rows Try.underlying22 Try.underlying29 Try.underlying3 (by kernel_rfl) (by kernel_rfl) hf with ⟨hcs, _⟩ | ⟨a, len, cap, A, L, C, Z, hcs, hb, hl, hm, _, hr⟩
    · simp [Value.cells] at hcs
      obtain ⟨rfl, rfl, rfl⟩ := hcs
      exact ⟨[], none, 0, rfl, fun h => by simp at h⟩
    · simp [Value.cells] at hcs
      obtain ⟨rfl, rfl, rfl⟩ := hcs
      exact ⟨_, rows_at hl hr⟩
  clear hA0 hval0
  refine (law_any (.slice a0 len0 cap0) Z0 W w0).mono fun e W' ⟨he, bel⟩ => ?_
  subst he
  exact ⟨_, rfl, _, _, _, [], _, [], hW', trodAll_mk1 (shut_bool Try.underlying4 _), (trodAll_cons_mk (Below.trod laidOut (by kernel_rfl) (of_decide_eq_true (by kernel_rfl)) k0 bel lt0) trodAll_mk0), rfl, bel.frame _, fun h => by cases h⟩

theorem over : Rows.fnComponentsAreExactlyTheCyclesRow.holds Try.pinned (OpenSpec.ofChange Rows.fnComponentsAreExactlyTheCyclesSpec) :=
  OpenClaim.holds_of_wide 3 Try.f3 rfl rfl rfl rfl rfl rfl rfl ⟨rfl, rfl, rfl, rfl, rfl⟩ rfl rfl rfl rfl rfl (by kernel_rfl) Try.func3 (by kernel_rfl)
    (of_decide_eq_true (by kernel_rfl)) (by unfold Func.isWrapper; first | (rw [if_pos (by decide +kernel)]; kernel_rfl) | (rw [if_neg (by decide +kernel)]; exact ⟨rfl, rfl⟩))
    (fun os started H enc _ => lifted os started H enc)

/-- The statement. -/
theorem proved : Rows.FnComponentsAreExactlyTheCyclesSaid := over
end Go.Proofs.Qxb6603228a.fnComponentsAreExactlyTheCycles
