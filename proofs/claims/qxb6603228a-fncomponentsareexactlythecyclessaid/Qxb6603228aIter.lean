/-
  slices.Values, slices.AppendSeq, slices.Collect, slices.Sorted at ints: after the guide's worked texts on a range over a function, turned to this program.
-/
import Derived.RangeFuncBox
import Derived.RangeFuncLeaves
import Derived.Shelf.Abstract
import Derived.WalkKit
import Derived.OwnWalkIn
import Derived.TacticsInMore
import Derived.LoopNIn
import Derived.LoopIn
import Derived.Maps.AppendAt
import Derived.Sort.OwnSorted
import Derived.Lib.SlKeysI
import Derived.Test.Qxb6603228aShelf
import Derived.Test.Qxb6603228aRows
namespace Go.Proofs.Qxb6603228a
open Go.RowKit Go.Shelf

attribute [local go_sem] Oper.semAt_some

/-- WHAT HAS COME WHEN k ROUNDS ARE OVER: f 0, .., f (k - 1). -/
def It.upto {α : Type} (f : Nat → α) (k : Nat) : List α := (List.range k).map f
theorem It.upto_succ {α : Type} (f : Nat → α) (k : Nat) : It.upto f (k + 1) = It.upto f k ++ [f k] := by simp [It.upto, List.range_succ]
theorem It.upto_length {α : Type} (f : Nat → α) (k : Nat) : (It.upto f k).length = k := by simp [It.upto]
theorem It.upto_all (zs : List Int) : It.upto (fun j => zs[j]?.getD 0) zs.length = zs := by
  apply List.ext_getElem
  · simp [It.upto]
  · intro i h1 h2
    simp [It.upto, h2]

set_option maxRecDepth 100000 in
set_option maxHeartbeats 2000000 in
/-- **slices.Values's closure: 'for _, v := range s { if !yield(v) { return } }': FOR EVERY LOOP BODY THAT KEEPS WHAT LAY BELOW n₀.** -/
theorem It.values1_in (F : Fence) (n : Nat) (h7 : F.fn 43) (hro : F.round = none) (hn : 1 ≤ n) (l Bs n₀ b off len cap : Nat) (zs : List Int) (hreach : len * 8 ≤ 140737488351232) (hb : b < n₀) (J Jx : List Int → World → Prop)
    (hY : ∀ pre x W, J pre W → pre.length < len → YieldAt F (n - 1) Try.prog l #[.int .i64 x] W fun e W' =>
      (e = .returned (.bool true) ∧ J (pre ++ [x]) W' ∧ Below n₀ W W') ∨ (e = .returned (.bool false) ∧ Jx (pre ++ [x]) W'))
    (W : World) (hBs : W.cell? ⟨Bs, 0, none⟩ = some (.slice (some ⟨b, off, none⟩) len cap)) (hc : ∀ j, j < len → W.cell? ⟨b, off + j, none⟩ = some (.int .i64 (zs[j]?.getD 0))) (h0 : J [] W) :
    CallsIn F n Try.prog 43 #[.func (.yield l) #[] #[], .pointer (some ⟨Bs, 0, none⟩)] W fun e W' => (∃ v, e = .returned v) ∧
      ((∃ ys, ys = It.upto (fun j => zs[j]?.getD 0) len ∧ J ys W') ∨ (∃ pre, (∃ k, k ≤ len ∧ pre = It.upto (fun j => zs[j]?.getD 0) k) ∧ Jx pre W')) := by
  refine callsIn_of_wp Try.func43 rfl h7 ?_ hro
  simp only [Try.ntmps43, List.size_toArray, List.length_cons, List.length_nil, Nat.reduceAdd, Nat.reduceSub, Array.replicate_succ, Array.replicate_zero, List.push_toArray, List.append_toArray, List.nil_append, List.cons_append]
  gi_wp2
  gi_loopw [7] (fun i wr => ∃ k : Nat, k ≤ len ∧ i = .int .i64 k ∧ J (It.upto (fun j => zs[j]?.getD 0) k) wr ∧ Below n₀ W wr)
    (fun i _ => len - (intOf i).toNat)
  case atStart => exact ⟨0, Nat.zero_le _, rfl, h0, Below.refl _ _⟩
  case round =>
    obtain ⟨k, hk, rfl, hJs, hnx⟩ := hrel
    have hcx : k < len → wr.cell? ⟨b, off + k, none⟩ = some (.int .i64 (zs[k]?.getD 0)) := fun h => (hnx.cell (p := ⟨b, off + k, none⟩) hb).trans (hc k h)
    by_cases hlt : k < len
    · obtain ⟨fn, tmps, assign, body, hy, hR⟩ := hY _ (zs[k]?.getD 0) wr hJs (by rw [It.upto_length]; exact hlt)
      have hcx' := hcx hlt
      gi_wp2
      refine hR.mono ?_
      rintro e W3 (⟨rfl, hJ3, hk3⟩ | ⟨rfl, hJx3⟩)
      · -- THE ROUND GOES ON
        gi_wp2
        go_roundw
        case rel => exact ⟨k + 1, by omega, by simp, by rw [It.upto_succ]; exact hJ3, hnx.trans hk3⟩
        case measure => simp [intOf]; omega
      · gi_wp2
        refine bodyPost_ret (results_none rfl _ _ _) rfl ?_
        exact ⟨⟨_, rfl⟩, .inr ⟨_, ⟨k + 1, by omega, (It.upto_succ _ _).symm⟩, hJx3⟩⟩
    · obtain rfl : k = len := by omega
      gi_wp2
      go_end0
      exact ⟨⟨_, rfl⟩, .inl ⟨_, rfl, hJs⟩⟩

theorem It.upto_take (zs : List Int) {k : Nat} (hk : k ≤ zs.length) : It.upto (fun j => zs[j]?.getD 0) k = zs.take k := by
  apply List.ext_getElem
  · simp [It.upto, hk]
  · intro i h1 h2
    have : i < zs.length := by simp [It.upto] at h1; omega
    simp [It.upto, this]

/-- THE SLICE VALUE sv HOLDS THE ints zs, in a block below n₀; or it is nil and there are none. -/
def It.Ints (n₀ : Nat) (W : World) (sv : Value) (zs : List Int) : Prop :=
  (sv = .slice none 0 0 ∧ zs = []) ∨ ∃ b off cap, sv = .slice (some ⟨b, off, none⟩) zs.length cap ∧ b < n₀ ∧ ∀ j, j < zs.length → W.cell? ⟨b, off + j, none⟩ = some (.int .i64 (zs[j]?.getD 0))
theorem It.Ints.below {n₀ : Nat} {A B : World} (h : Below n₀ A B) {sv : Value} {zs : List Int} : It.Ints n₀ A sv zs → It.Ints n₀ B sv zs
  | .inl e => .inl e
  | .inr ⟨b, off, cap, e, hb, hc⟩ => .inr ⟨b, off, cap, e, hb, fun j hj => (h.cell (p := ⟨b, off + j, none⟩) hb).trans (hc j hj)⟩

set_option maxRecDepth 100000 in
set_option maxHeartbeats 1000000 in
/-- .. at the nil slice: no round. -/
theorem It.values1_nil_in (F : Fence) (n : Nat) (h7 : F.fn 43) (hro : F.round = none) (l Bs : Nat) (J : List Int → World → Prop) (W : World) (hBs : W.cell? ⟨Bs, 0, none⟩ = some (.slice none 0 0)) (h0 : J [] W) :
    CallsIn F n Try.prog 43 #[.func (.yield l) #[] #[], .pointer (some ⟨Bs, 0, none⟩)] W fun e W' => (∃ v, e = .returned v) ∧ J [] W' := by
  refine callsIn_of_wp Try.func43 rfl h7 ?_ hro
  simp only [Try.ntmps43, List.size_toArray, List.length_cons, List.length_nil, Nat.reduceAdd, Nat.reduceSub, Array.replicate_succ, Array.replicate_zero, List.push_toArray, List.append_toArray, List.nil_append, List.cons_append]
  gi_wp2
  gi_loopw [7] (fun i wr => i = .int .i64 0 ∧ J [] wr) (fun _ _ => 0)
  case atStart => exact ⟨rfl, h0⟩
  case round =>
    obtain ⟨rfl, hJs⟩ := hrel
    gi_wp2
    go_end0
    exact ⟨⟨_, rfl⟩, hJs⟩

set_option maxHeartbeats 1000000 in
/-- **slices.Values(s)**: the slice value is boxed; the function value captures the box. -/
theorem It.values_in (F : Fence) (n : Nat) (h5 : F.fn 35) (hro : F.round = none) (a : Option Addr) (len cap : Nat) (w : World) :
    CallsIn F n Try.prog 35 #[.slice a len cap] w fun e w' => e = .returned (.func (.func 43) #[] #[.pointer (some ⟨w.heap.size, 0, none⟩)]) ∧ w' = w.alloc (.cells #[.slice a len cap] 29) := by
  refine callsIn_of_wp Try.func35 rfl h5 ?_ hro
  simp only [Try.ntmps35, List.size_toArray, List.length_cons, List.length_nil, Nat.reduceAdd, Nat.reduceSub, Array.replicate_succ, Array.replicate_zero, List.push_toArray, List.append_toArray, List.nil_append, List.cons_append]
  gi_wp2
  go_ret
  exact ⟨rfl, rfl⟩

/-- **slices.Values(s) HANDS BACK A VALUE THAT 'SeqStopsK', AT 'Kp := Below n₀'**: all of zs, in order; or a prefix. EVERY SLICE OF ints WITHIN THE REACH, THE nil ONE TOO. -/
theorem It.values_stops (F : Fence) (n : Nat) (h7 : F.fn 43) (hro : F.round = none) (hn : 1 ≤ n) (Bs n₀ : Nat) (sv : Value) (zs : List Int) (hreach : zs.length * 8 ≤ 140737488351232) (w : World) (hBs : Bs < w.heap.size) (hn₀ : n₀ ≤ w.heap.size)
    (hc : w.cell? ⟨Bs, 0, none⟩ = some sv) (hI : It.Ints n₀ w sv zs) :
    SeqStopsK F n Try.prog 43 #[.pointer (some ⟨Bs, 0, none⟩)] (fun x : Int => #[Value.int .i64 x]) (Below n₀) (fun ys => ys = zs) (fun pre => pre <+: zs) zs.length w := fun l J Jx W hW _ _ hY h0 => by
  have hc' := (hW.cell (p := ⟨Bs, 0, none⟩) hBs).trans hc
  rcases hI.below (hW.mono hn₀) with ⟨rfl, rfl⟩ | ⟨b, off, cap, rfl, hb, hcs⟩
  · exact (It.values1_nil_in F n h7 hro l Bs J W hc' h0).mono fun e W' ⟨he, hj⟩ => ⟨he, .inl ⟨_, rfl, hj⟩⟩
  · refine (It.values1_in F n h7 hro hn l Bs n₀ b off zs.length cap zs hreach hb J Jx hY W hc' hcs h0).mono ?_
    rintro e W' ⟨he, ⟨ys, rfl, hj⟩ | ⟨pre, ⟨k, hk, rfl⟩, hj⟩⟩
    · exact ⟨he, .inl ⟨_, It.upto_all zs, hj⟩⟩
    · exact ⟨he, .inr ⟨_, by rw [It.upto_take zs hk]; exact List.take_prefix _ _, hj⟩⟩


theorem It.info3 : (Try.prog.info? 3).map (fun i => (i.zero, i.size, i.bytes)) = some (some (.int .i64 0), 1, 8) := by kernel_rfl

set_option maxRecDepth 100000 in
set_option maxHeartbeats 2000000 in
/-- slices.AppendSeq(nil, slices.Values(s)): a new slice of what s holds. -/
theorem It.appendSeq_in (F : Fence) (n : Nat) (h3 : F.fn 45) (h7 : F.fn 43) (hro : F.round = none) (hn : 3 ≤ n) (Bs : Nat) (sv : Value) (zs : List Int) (hreach : zs.length * 8 ≤ 140737488351232) (w : World) (hBs : Bs < w.heap.size) (hc0 : w.cell? ⟨Bs, 0, none⟩ = some sv) (hI : It.Ints w.heap.size w sv zs) :
    CallsIn F n Try.prog 45 #[.slice none 0 0, .func (.func 43) #[] #[.pointer (some ⟨Bs, 0, none⟩)]] w fun e W' => ∃ v, e = .returned v ∧ W'.ownsRow w.heap.size 3 1 v zs.length (zs.map (Value.int .i64)) ∧ (v = .slice none 0 0 ↔ zs = []) ∧ Below w.heap.size w W' := by
  have h1 : 1 ≤ n := by omega
  obtain ⟨i0, hi, hz0, hz1, hz2⟩ := info_parts It.info3
  refine callsIn_of_wp_marks Try.func45 rfl h3 ?_ hro
  simp only [Try.ntmps45, List.size_toArray, List.length_cons, List.length_nil, Nat.reduceAdd, Nat.reduceSub, Array.replicate_succ, Array.replicate_zero, List.push_toArray, List.append_toArray, List.nil_append, List.cons_append]
  gi_wp2
  have bO := Boxed.new w 29 (.slice none 0 0)
  have hB0 : Below w.heap.size w (w.alloc (.cells #[.slice none 0 0] 29)) := (Below.refl _ w).alloc (Nat.le_refl _) _
  have hc1 : (w.alloc (.cells #[.slice none 0 0] 29)).cell? ⟨Bs, 0, none⟩ = some sv := (hB0.cell (p := ⟨Bs, 0, none⟩) hBs).trans hc0
  refine wpIn_rangeFunc_ownG hro h1 (gf := 43) (lb := #[.pointer (some ⟨Bs, 0, none⟩)]) rfl h7 (enters_of Try.func43 (by kernel_rfl) rfl)
    (It.values_stops F (n - 1) h7 hro (by omega) Bs w.heap.size _ zs hreach _ (by simp; omega) (by simp) hc1 (hI.below hB0)) belowK_t (belowK_b (by simp)) (Below.refl _ _) (fun _ => rfl)
    (fun pre W => (∃ v, Boxed W w.heap.size 29 v ∧ W.ownsRow w.heap.size 3 1 v pre.length (pre.map (Value.int .i64)) ∧ (v = .slice none 0 0 ↔ pre = [])) ∧ Below w.heap.size w W)
    (fun _ _ _ => False)
    (OwnFrom.and (Own.from (holdsRow_own w.heap.size w.heap.size 29 3 1 (fun pre => pre.length) (fun pre => pre.map (Value.int .i64)) (fun pre v => v = .slice none 0 0 ↔ pre = [])) _) (ownFrom_below (Nat.le_refl _) (by simp)))
    (fun _ _ _ _ _ hs _ _ => hs)
    ⟨⟨_, bO, World.ownsRow_nil _ _ _ _, by simp⟩, hB0⟩
    (fun x => { tmps := #[.slice none 0 0, .func (.func 43) #[] #[.pointer (some ⟨Bs, 0, none⟩)], .pointer (some ⟨w.heap.size, 0, none⟩), undef, .slice none 0 0, .int .i64 x, .func (.func 43) #[] #[.pointer (some ⟨Bs, 0, none⟩)], .int .i64 x, undef, undef, undef, undef, undef], defers := [] }) ?assign ?body ?done ?stop
  case assign =>
    intro l x W K hK
    gi_wp2
    exact hK
  case body =>
    rintro l pre x W ⟨⟨v, hv, hrow, hnil⟩, hB⟩ hlt
    have hc := hv.cell
    gi_wp2_with (gi_at_builtin; refine wpListIn_append_own _ rfl _ _ 29 rfl w.heap.size 3 i0 (.int .i64 0) 1 8 Try.underlying29 hi hz0 hz1 hz2 rfl (by decide) _ _ _ rfl (hrow.alloc _) ⟨W.heap.size, 0, none⟩ 1 1 [.int .i64 x] rfl rfl (cell_one_new _ _ _) (by simp [Value.oneCell']) (by unfold maxLen; omega) (by omega) (by have := hB.size; simp; omega) ?_; intro v' w1 hown' hgrow _; obtain ⟨g', cap', rfl⟩ := ownsRow_succ hown'; obtain ⟨hv1, hv2, hr2, hk2, hb2⟩ := hv.appended (by decide) hrow hB.size (Nat.le_refl _) hown' hgrow; have hc1 := hv1.cell; have hf1 := hv1.frozen)
    exact ⟨hk2.from _, hb2, ⟨_, hv2, by simpa using hr2, by simp⟩, hB.trans hb2⟩
  case done =>
    rintro D ys W hD rfl ⟨⟨v, hv, hrow, hnil⟩, hB⟩ hK
    have hc := hv.cell
    gi_wp2
    refine ⟨by simp, .inl ⟨_, _, rfl, run_takeDeferred hK, ?_⟩⟩
    exact ⟨_, results_tmp rfl _ _ _, v, rfl, ownsRow_putObj hrow _ hK rfl, hnil, hB.trans (belowK_b (w := w) (Nat.le_refl _) W D _ _ (by simp at hD; omega) hK rfl rfl)⟩
  case stop =>
    rintro D c pre W _ _ h _
    exact h.elim
end Go.Proofs.Qxb6603228a
