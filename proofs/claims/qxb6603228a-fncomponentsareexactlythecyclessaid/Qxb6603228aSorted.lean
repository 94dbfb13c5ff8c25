/-
  slices.Collect, slices.Sorted over slices.Values, as plain contracts.
-/
import Derived.Test.Qxb6603228aIter
import Derived.Test.Qxb6603228aReachM
namespace Go.Proofs.Qxb6603228a
open Go.RowKit Go.Sort

/-- A new slice owns these integers. -/
def NewRow (w : World) (zs : List Int) (e : Ending) (w' : World) : Prop := ∃ g cap, e = .returned (.slice (some ⟨g, 0, none⟩) zs.length cap) ∧ w'.ownsRow w.heap.size 3 1 (.slice (some ⟨g, 0, none⟩) zs.length cap) zs.length (zs.map (Value.int .i64)) ∧ Below w.heap.size w w'

theorem appendSeq_any (Bs : Nat) (sv : Value) (zs : List Int) (hz : 0 < zs.length) (hreach : zs.length ≤ 1048576) (w : World) (hBs : Bs < w.heap.size) (hc0 : w.cell? ⟨Bs, 0, none⟩ = some sv) (hI : It.Ints w.heap.size w sv zs) :
    Calls Try.prog 45 #[.slice none 0 0, .func (.func 43) #[] #[.pointer (some ⟨Bs, 0, none⟩)]] w fun e w' => NewRow w zs e w' := by
  refine (callsIn_wide (n := 3)).1 ((It.appendSeq_in Fence.wide 3 trivial trivial rfl (by omega) Bs sv zs (by omega) w hBs hc0 hI).mono ?_)
  rintro e w' ⟨v, rfl, hrow, hnil, hb⟩
  rcases hrow.2 with ⟨_, h0⟩ | ⟨g, cap, cur, rfl, _⟩
  · omega
  · exact ⟨g, cap, rfl, hrow, hb⟩

set_option maxHeartbeats 400000 in
theorem collect_any (Bs : Nat) (sv : Value) (zs : List Int) (hz : 0 < zs.length) (hreach : zs.length ≤ 1048576) (w : World) (hBs : Bs < w.heap.size) (hc0 : w.cell? ⟨Bs, 0, none⟩ = some sv) (hI : It.Ints w.heap.size w sv zs) :
    Calls Try.prog 41 #[.func (.func 43) #[] #[.pointer (some ⟨Bs, 0, none⟩)]] w fun e w' => NewRow w zs e w' := by
  have HI : Hid (w.cell? ⟨Bs, 0, none⟩ = some sv ∧ It.Ints w.heap.size w sv zs) := ⟨hc0, hI⟩
  clear hc0 hI
  go_enter Try.func41, Try.ntmps41
  go_wp2_with fail
  refine (appendSeq_any Bs sv zs hz hreach _ hBs HI.out.1 HI.out.2).mono ?_
  rintro e w1 ⟨g, cap, rfl, hown, hb⟩
  go_wp2
  go_ret
  exact ⟨g, cap, rfl, hown, hb⟩

set_option maxHeartbeats 400000 in
/-- slices.Sorted(slices.Values(s)): a new slice of what s holds, sorted. -/
theorem sorted_any (Bs : Nat) (sv : Value) (zs : List Int) (hz : 0 < zs.length) (hreach : zs.length ≤ 1048576) (w : World) (hBs : Bs < w.heap.size) (hc0 : w.cell? ⟨Bs, 0, none⟩ = some sv) (hI : It.Ints w.heap.size w sv zs) :
    Calls Try.prog 34 #[.func (.func 43) #[] #[.pointer (some ⟨Bs, 0, none⟩)]] w fun e w' => NewRow w (zs.mergeSort (fun x y => decide (x ≤ y))) e w' := by
  have HI : Hid (w.cell? ⟨Bs, 0, none⟩ = some sv ∧ It.Ints w.heap.size w sv zs) := ⟨hc0, hI⟩
  clear hc0 hI
  go_enter Try.func34, Try.ntmps34
  go_wp2_with fail
  refine (collect_any Bs sv zs hz hreach _ hBs HI.out.1 HI.out.2).mono ?_
  rintro e w1 ⟨g, cap, rfl, hown, hb⟩
  rcases hown.2 with ⟨h0, _⟩ | ⟨g', cap', cur, hv, hbase, hgb, r1, r2, r3, r4⟩
  · cases h0
  · cases hv
    have hH : Holds (Value.int .i64) w1 g 0 zs.toArray := holds_of_block_i hgb (by simpa using r4)
    have hgl : g < w1.heap.size := (Array.getElem?_eq_some_iff.1 hgb).1
    have HF : Hid (Below w.heap.size w w1 ∧ w.heap.size ≤ g ∧ w1.heap[g]? = some (.cells cur 3 (0, 0)) ∧ zs.length ≤ cap ∧ cap ≤ maxLen ∧ cur.size = cap * 1 ∧ Holds (Value.int .i64) w1 g 0 zs.toArray) := ⟨hb, hbase, hgb, r1, r2, r3, hH⟩
    clear hown hgb r1 r2 r3 r4 hH hb hbase
    go_wp2_with fail
    refine (Try.slices_Sort_int g 0 cap zs _ HF.out.2.2.2.2.2.2 hgl (by omega)).mono ?_
    rintro e w2 ⟨rfl, nn, os, rfl⟩
    obtain ⟨h1, h2, h3, h4, h5, h6, _⟩ := HF.out
    have hr := ownsRow_sorted_i (ts := zs.mergeSort (fun x y => decide (x ≤ y))) (n := nn) (os := os) (by simp) h2 h3 h4 h5 h6
    have HG : Hid ((grow (putRow (Value.int .i64) (Sort.ahead w1 nn) g 0 (zs.mergeSort (fun x y => decide (x ≤ y))).toArray) os).ownsRow w.heap.size 3 1 (.slice (some ⟨g, 0, none⟩) zs.length cap) zs.length ((zs.mergeSort (fun x y => decide (x ≤ y))).map (Value.int .i64)) ∧ Below w.heap.size w (grow (putRow (Value.int .i64) (Sort.ahead w1 nn) g 0 (zs.mergeSort (fun x y => decide (x ≤ y))).toArray) os)) :=
      ⟨hr, h1.grown (grownBy_sorted_i _) h1.size (fun j hj => by cases hj; exact h2)⟩
    clear h1 h2 h3 h4 h5 h6 hr
    generalize grow (putRow (Value.int .i64) (Sort.ahead w1 nn) g 0 (zs.mergeSort (fun x y => decide (x ≤ y))).toArray) os = w3 at HG ⊢
    go_wp2
    go_ret
    refine ⟨g, cap, by rw [List.length_mergeSort]; rfl, ?_, HG.out.2⟩
    rw [List.length_mergeSort]
    exact HG.out.1
end Go.Proofs.Qxb6603228a
