/-
  modelCycles, walked.
-/
import Derived.Test.Qxb6603228aModel
namespace Go.Proofs.Qxb6603228a
open Go.RowKit Tj

/-- Two nodes that reach one another. -/
def mutB (R : Nat → Nat → Bool) (u v : Nat) : Bool := R u v && R v u

def Modelled (w : World) (n : Nat) (M : Nat → Nat → Bool) (e : Ending) (w' : World) : Prop := ∃ vr, e = .returned vr ∧ ∃ T, RM w (want n M n) vr T w'

/-- The members so far, in blocks from T on. -/
structure MM (w : World) (W : List (List Nat)) (vr : Value) (T : Nat) (c : List Nat) (vm : Value) (wr : World) : Prop where
  res : RM w W vr T wr
  own : wr.ownsRow T 3 1 vm c.length (c.map enc)

theorem MM.push {w wr w' : World} {W : List (List Nat)} {vr vm : Value} {T v g cap : Nat} {c : List Nat} (h : MM w W vr T c vm wr) (hown : w'.ownsRow T 3 1 (.slice (some ⟨g, 0, none⟩) (c.length + 1) cap) (c.length + 1) (c.map enc ++ [.int .i64 (v : Int)]))
    (hg : (wr.alloc (.cells #[.int .i64 (v : Int)] 3)).grownBy w' vm.ownBlock) : MM w W vr T (c ++ [v]) (.slice (some ⟨g, 0, none⟩) (c.length + 1) cap) w' := by
  refine ⟨(h.res.keep (World.grownBy_alloc wr _ none) (fun k e => by cases e)).keep hg (fun k e => (h.own.lt k e).1), ?_⟩
  have e : (c ++ [v]).map enc = c.map enc ++ [.int .i64 (v : Int)] := by simp [enc]
  rw [e, List.length_append]
  exact hown

theorem MM.row {w wr : World} {W : List (List Nat)} {vr : Value} {T g cap L : Nat} {c : List Nat} (h : MM w W vr T c (.slice (some ⟨g, 0, none⟩) L cap) wr) (hL : L = c.length) : RowAt wr (fun b => T ≤ b ∧ b < wr.heap.size) (.slice (some ⟨g, 0, none⟩) L cap) (castL c) := by
  subst hL
  refine ⟨some ⟨g, 0, none⟩, cap, by rw [castL_len], fun _ => ⟨g, 0, rfl, h.own.lt g rfl, fun j hj => ?_⟩⟩
  rw [castL_len] at hj
  rw [Nat.zero_add, h.own.cellAt j (by omega), castL_at]
  simp [enc, List.getD_eq_getElem?_getD, hj]

set_option maxHeartbeats 1000000 in
set_option maxRecDepth 100000 in
theorem model_any (r0 n : Nat) (R : Nat → Nat → Bool) (w : World) (hn : n ≤ 4096) (hR : BoolsAt w w.heap.size r0 n R) : Calls Try.prog 14 #[.slice (some ⟨r0, 0, none⟩) n n, .int .i64 n] w fun e w' => Modelled w n (mutB R) e w' := by
  have HR : Hid (BoolsAt w w.heap.size r0 n R) := hR
  clear hR
  obtain ⟨i3, hi3, hz3, hs3, hb3⟩ := info_parts info3
  obtain ⟨i29, hi29, hz29, hs29, hb29⟩ := info_parts info29
  go_enter Try.func14, Try.ntmps14
  go_wp2
  go_loopg [5, 6] n (fun gk v5 v6 wr => ∃ (u : Nat) (vr : Value), u ≤ n ∧ gk = n - u ∧ v6 = .int .i64 u ∧ vr = v5 ∧ w.heap.size ≤ wr.heap.size ∧ Hid (∃ T, RM w (want n (mutB R) u) vr T wr))
  case atStart => exact ⟨0, _, Nat.zero_le _, by omega, rfl, rfl, Nat.le_refl _, _, RM.start w⟩
  case round =>
    obtain ⟨u, vr, hun, hgk, rfl, hv5, hsz, H1⟩ := hrel
    subst hv5
    by_cases hlt : u < n
    · obtain ⟨T, hT⟩ : ∃ T, T = wr.heap.size := ⟨_, rfl⟩
      have HT : Hid (RM w (want n (mutB R) u) vr T wr ∧ w.heap.size ≤ T) := by
        obtain ⟨T0, h0⟩ := H1.out
        subst hT
        exact ⟨h0.raise, hsz⟩
      clear hT H1
      go_wp2
      go_loopg [7, 8, 9] n (fun k2 v7 v8 v9 wq => ∃ (v : Nat) (vm : Value), v ≤ n ∧ k2 = n - v ∧ v9 = .int .i64 v ∧ v8 = .bool true ∧ vm = v7 ∧ T ≤ wq.heap.size ∧ Hid ((∀ x, x < v → x < u → mutB R u x = false) ∧ MM w (want n (mutB R) u) vr T (Tj.part (mutB R) u v) vm wq))
      case atStart => exact ⟨0, _, Nat.zero_le _, by omega, rfl, rfl, rfl, HT.out.1.size, fun x hx => by omega, HT.out.1, World.ownsRow_nil _ _ _ _⟩
      case round =>
        obtain ⟨v, vm, hvn, hgk2, rfl, rfl, hv7, hsz2, H2⟩ := hrel
        subst hv7
        obtain ⟨hno, hMM⟩ := H2.out
        by_cases hvl : v < n
        · obtain ⟨_, F, hF, hrows⟩ := HR.out.below hMM.res.below (Nat.le_refl _)
          obtain ⟨bu, hFu, _, hbu⟩ := hrows u hlt
          obtain ⟨bv, hFv, _, hbv⟩ := hrows v hvl
          have hc0 := hF.cell hlt
          have hc1 := hF.cell hvl
          have hc2 := hbu.cell hvl
          have hc3 := hbv.cell hlt
          rw [hFu] at hc0
          rw [hFv] at hc1
          have HMM : Hid ((∀ x, x < v → x < u → mutB R u x = false) ∧ MM w (want n (mutB R) u) vr T (Tj.part (mutB R) u v) vm wr) := ⟨hno, hMM⟩
          have hpl := part_len (mutB R) u v
          clear hF hrows hFu hFv hbu hbv hno hMM H2
          obtain ⟨x, hx⟩ : ∃ x, x = R u v := ⟨_, rfl⟩
          obtain ⟨y, hy⟩ : ∃ y, y = R v u := ⟨_, rfl⟩
          rw [← hx] at hc2
          rw [← hy] at hc3
          have HM : Hid (mutB R u v = (x && y)) := by show mutB R u v = (x && y); rw [hx, hy]; rfl
          clear hx hy
          cases x with
          | false =>
            go_wp2
            go_roundg (n - (v + 1))
            case measure => omega
            case rel =>
              have hm : mutB R u v = false := by rw [HM.out]; rfl
              refine ⟨v + 1, vm, by omega, rfl, by go_num, rfl, rfl, hsz2, fun x hx hxu => ?_, ?_⟩
              · by_cases e : x < v
                · exact HMM.out.1 x e hxu
                · obtain rfl : x = v := by omega
                  exact hm
              · rw [part_succ, hm]; simpa using HMM.out.2
          | true =>
            cases y with
            | false =>
              go_wp2
              go_roundg (n - (v + 1))
              case measure => omega
              case rel =>
                have hm : mutB R u v = false := by rw [HM.out]; rfl
                refine ⟨v + 1, vm, by omega, rfl, by go_num, rfl, rfl, hsz2, fun x hx hxu => ?_, ?_⟩
                · by_cases e : x < v
                  · exact HMM.out.1 x e hxu
                  · obtain rfl : x = v := by omega
                    exact hm
                · rw [part_succ, hm]; simpa using HMM.out.2
            | true =>
              have HM1 : Hid (mutB R u v = true) := by show mutB R u v = true; rw [HM.out]; rfl
              clear HM
              by_cases hvu : v < u
              · go_wp2
                go_roundg (n - (u + 1))
                case measure => omega
                case rel =>
                  refine ⟨u + 1, vr, by omega, rfl, by go_num, rfl, Nat.le_trans HT.out.2 hsz2, T, ?_⟩
                  rw [want_succ, wanted_no hvu HM1.out]
                  simpa using HMM.out.2.res
              · go_wp2_with (at_builtin; (refine wpList_append_out _ rfl (.tmp 39) (.tmp 41) 29 rfl T 3 i3 (.int .i64 0) 1 8 Try.underlying29 hi3 hz3 hs3 hb3 rfl (by decide) _ (Tj.part (mutB R) u v).length ((Tj.part (mutB R) u v).map enc) rfl (HMM.out.2.own.alloc _) ⟨wr.heap.size, 0, none⟩ 1 1 [.int .i64 (v : Int)] rfl rfl ?d1 ?d2 (by omega) ?d3 ?d4 ?d5 ?d6))
                case d1 => exact news_one _ _ rfl _ _
                case d2 => intro u hu; simp at hu; subst hu; rfl
                case d3 => unfold maxLen; omega
                case d4 => omega
                case d5 => simp; omega
                intro g5 c5 w5 hown5 hgrow5 _
                have HQ : Hid (MM w (want n (mutB R) u) vr T (Tj.part (mutB R) u v ++ [v]) (.slice (some ⟨g5, 0, none⟩) ((Tj.part (mutB R) u v).length + 1) c5) w5) := HMM.out.2.push hown5 hgrow5
                have hsz5 : T ≤ w5.heap.size := Nat.le_trans (by simp; omega) hgrow5.size
                clear hown5 hgrow5
                go_wp2
                go_roundg (n - (v + 1))
                case measure => omega
                case rel =>
                  refine ⟨v + 1, _, by omega, rfl, by go_num, rfl, rfl, hsz5, fun x hx hxu => HMM.out.1 x (by omega) hxu, ?_⟩
                  rw [part_succ, HM1.out]
                  exact HQ.out
        · have hvn' : v = n := by omega
          have HE : Hid ((∀ x, x < u → mutB R u x = false) ∧ MM w (want n (mutB R) u) vr T (cls n (mutB R) u) vm wr) := by
            refine ⟨fun x hx => hno x (by omega) hx, ?_⟩
            rw [hvn'] at hMM
            exact hMM
          have hcl : (cls n (mutB R) u).length ≤ 4096 := by rw [← part_all]; have := part_len (mutB R) u n; omega
          clear hno hMM H2 hvn'
          have hwl : (want n (mutB R) u).length ≤ 4096 := by have := want_len n (mutB R) u; omega
          rcases HE.out.2.own.2 with ⟨hvm, h0⟩ | ⟨g, cap, cur, hvm, _, _, _⟩
          · have HW : Hid (wanted n (mutB R) u = false) := by show wanted n (mutB R) u = false; rw [wanted_yes HE.out.1, h0]; rfl
            rw [hvm]
            clear hvm h0
            go_wp2
            go_roundg (n - (u + 1))
            case measure => omega
            case rel =>
              refine ⟨u + 1, vr, by omega, rfl, by go_num, rfl, Nat.le_trans HT.out.2 hsz2, T, ?_⟩
              rw [want_succ, HW.out]
              simpa using HE.out.2.res
          · obtain ⟨L, hL⟩ : ∃ L, L = (cls n (mutB R) u).length := ⟨_, rfl⟩
            have HRow : Hid (RowAt wr (fun b => T ≤ b ∧ b < wr.heap.size) (.slice (some ⟨g, 0, none⟩) L cap) (castL (cls n (mutB R) u))) := by
              have := HE.out.2
              rw [hvm, ← hL] at this
              exact this.row hL
            have HY : Hid (wanted n (mutB R) u = decide (1 < L)) := by show wanted n (mutB R) u = decide (1 < L); rw [wanted_yes HE.out.1, hL]
            rw [← hL] at hvm hcl
            rw [hvm]
            clear hvm hL
            by_cases hL1 : 1 < L
            · obtain ⟨us, hus1, hus2⟩ := HE.out.2.res.own
              have hul : us.length = (want n (mutB R) u).length := by have := hus1.1; omega
              have HU : Hid (wr.ownsRow w.heap.size 29 1 vr (want n (mutB R) u).length us ∧ ∀ i, i < (want n (mutB R) u).length → ∃ x, us[i]? = some x ∧ RowAt wr (fun b => w.heap.size ≤ b ∧ b < T ∧ vr.ownBlock ≠ some b) x (castL ((want n (mutB R) u).getD i []))) := ⟨hus1, hus2⟩
              clear hus1 hus2
              go_wp2_with (at_builtin; (refine wpList_append_out _ rfl (.tmp 49) (.tmp 51) 22 rfl w.heap.size 29 i29 (.slice none 0 0) 1 24 Try.underlying22 hi29 hz29 hs29 hb29 rfl (by decide) _ (want n (mutB R) u).length us rfl (HU.out.1.alloc _) ⟨wr.heap.size, 0, none⟩ 1 1 [.slice (some ⟨g, 0, none⟩) L cap] rfl rfl ?e1 ?e2 (by omega) ?e3 ?e4 ?e5 ?e6))
              case e1 => exact news_one _ _ rfl _ _
              case e2 => intro u hu; simp at hu; subst hu; rfl
              case e3 => unfold maxLen; omega
              case e4 => omega
              case e5 => have := HT.out.2; simp; omega
              intro g5 c5 w5 hown5 hgrow5 hblk5
              have HQ : Hid (RM w (want n (mutB R) u ++ [cls n (mutB R) u]) (.slice (some ⟨g5, 0, none⟩) ((want n (mutB R) u).length + 1) c5) w5.heap.size w5) := HE.out.2.res.push HRow.out HU.out.2 hul hown5 hgrow5 (by simpa using hblk5)
              have hsz5 : w.heap.size ≤ w5.heap.size := Nat.le_trans (by have := HT.out.2; simp; omega) hgrow5.size
              clear hown5 hgrow5 hblk5
              go_wp2
              go_roundg (n - (u + 1))
              case measure => omega
              case rel =>
                refine ⟨u + 1, _, by omega, rfl, by go_num, rfl, hsz5, w5.heap.size, ?_⟩
                rw [want_succ, HY.out, decide_eq_true hL1]
                exact HQ.out
            · go_wp2
              go_roundg (n - (u + 1))
              case measure => omega
              case rel =>
                refine ⟨u + 1, vr, by omega, rfl, by go_num, rfl, Nat.le_trans HT.out.2 hsz2, T, ?_⟩
                rw [want_succ, HY.out, decide_eq_false hL1]
                simpa using HE.out.2.res
    · have hun' : u = n := by omega
      have HN : Hid (u = n) := hun'
      clear hun'
      go_wp2
      go_ret
      obtain ⟨T, hT⟩ := H1.out
      rw [HN.out] at hT
      exact ⟨vr, rfl, T, hT⟩
end Go.Proofs.Qxb6603228a
