/-
  components: a component is taken off the stack.
-/
import Derived.Test.Qxb6603228aEmitM
namespace Go.Proofs.Qxb6603228a
open Go.RowKit Tj

set_option maxHeartbeats 2000000 in
set_option maxRecDepth 1000000 in
theorem emit2 (A : Nat → List Nat) (n r N cap : Nat) (a : Option Addr) (w wr : World) (gk : Nat) (vf vc : Value) (s : St) (vw : Value) (v k : Nat) (rest : List (Nat × Nat)) (S stk' : List Nat)
    (u13 u14 _u15 u16 u17 u41 u42 u43 u44 u45 u46 u47 u48 u49 u50 u51 u52 u53 u54 u55 u56 u57 u58 u59 u60 u61 u62 u63 u64 u65 u66 u67 u68 u69 u70 u71 u72 u73 u74 u75 u76 u77 u78 u79 u80 u81 u82 u83 u84 u85 u86 u87 u88 u89 u90 u91 u92 u93 u94 u95 u96 u97 u98 u99 u100 u101 u102 u103 u104 u105 u106 u107 u108 u109 u110 u111 u112 u113 u114 u115 u116 u117 u118 u119 u120 u121 u122 u123 u124 u125 u126 u127 u128 u129 u130 u131 u132 u133 u134 u135 u136 u137 u138 u139 u140 u141 u142 u143 u144 u145 u146 u147 u148 u149 u150 u151 u152 u153 u154 u155 u156 u157 u158 u159 u160 u161 u162 u163 u164 u165 u166 u167 u168 u169 u170 u171 u172 u173 u174 u175 u176 u177 u178 u179 u180 u181 u182 u183 u184 u185 u186 : Value) (x1 x2 x12 x18 x19 x20 x21 x22 x23 x24 x25 x26 x27 x28 x29 x30 x31 x32 x33 x34 x35 x36 x37 x38 x39 x40 x187 x188 : Value)
    (c : Code) (hc : ((Try.f30.body.bind loopIn).bind loopIn).bind (after 29) = some c) (R : Ending → World → Prop) (J : Nat → Act → World → Prop) (K K1 K2 K3 : Act → World → Prop)
    (hJ : ∀ (k' : Nat) (a' : Act) (w' : World), (∃ u7 u8 u13 u14 u15 u16 u17 u41 u42 u43 u44 u45 u46 u47 u48 u49 u50 u51 u52 u53 u54 u55 u56 u57 u58 u59 u60 u61 u62 u63 u64 u65 u66 u67 u68 u69 u70 u71 u72 u73 u74 u75 u76 u77 u78 u79 u80 u81 u82 u83 u84 u85 u86 u87 u88 u89 u90 u91 u92 u93 u94 u95 u96 u97 u98 u99 u100 u101 u102 u103 u104 u105 u106 u107 u108 u109 u110 u111 u112 u113 u114 u115 u116 u117 u118 u119 u120 u121 u122 u123 u124 u125 u126 u127 u128 u129 u130 u131 u132 u133 u134 u135 u136 u137 u138 u139 u140 u141 u142 u143 u144 u145 u146 u147 u148 u149 u150 u151 u152 u153 u154 u155 u156 u157 u158 u159 u160 u161 u162 u163 u164 u165 u166 u167 u168 u169 u170 u171 u172 u173 u174 u175 u176 u177 u178 u179 u180 u181 u182 u183 u184 u185 u186 : Value, Rel2 A n r N w k' u7 u8 w' ∧ a' = { tmps := #[.slice a n cap, x1, x2, .pointer (some ⟨N + 1, 0, none⟩), .pointer (some ⟨N + 3, 0, none⟩), .pointer (some ⟨N + 5, 0, none⟩), .pointer (some ⟨N + 6, 0, none⟩), u7, u8, .pointer (some ⟨N + 7, 0, none⟩), .pointer (some ⟨N + 8, 0, none⟩), .func (.func 33) #[] #[.pointer (some ⟨N + 8, 0, none⟩), .pointer (some ⟨N + 1, 0, none⟩), .pointer (some ⟨N + 3, 0, none⟩), .pointer (some ⟨N + 6, 0, none⟩), .pointer (some ⟨N + 5, 0, none⟩), .pointer (some ⟨N + 7, 0, none⟩)], x12, u13, u14, u15, u16, u17, x18, x19, x20, x21, x22, x23, x24, x25, x26, x27, x28, x29, x30, x31, x32, x33, x34, x35, x36, x37, x38, x39, x40, u41, u42, u43, u44, u45, u46, u47, u48, u49, u50, u51, u52, u53, u54, u55, u56, u57, u58, u59, u60, u61, u62, u63, u64, u65, u66, u67, u68, u69, u70, u71, u72, u73, u74, u75, u76, u77, u78, u79, u80, u81, u82, u83, u84, u85, u86, u87, u88, u89, u90, u91, u92, u93, u94, u95, u96, u97, u98, u99, u100, u101, u102, u103, u104, u105, u106, u107, u108, u109, u110, u111, u112, u113, u114, u115, u116, u117, u118, u119, u120, u121, u122, u123, u124, u125, u126, u127, u128, u129, u130, u131, u132, u133, u134, u135, u136, u137, u138, u139, u140, u141, u142, u143, u144, u145, u146, u147, u148, u149, u150, u151, u152, u153, u154, u155, u156, u157, u158, u159, u160, u161, u162, u163, u164, u165, u166, u167, u168, u169, u170, u171, u172, u173, u174, u175, u176, u177, u178, u179, u180, u181, u182, u183, u184, u185, u186, x187, x188], defers := [] }) → J k' a' w')
    (hK : ∀ (a' : Act) (w' : World), Handed J gk a' w' → K a' w')
    (hn : n ≤ 4096) (hmu : gk = mu A n s) (hG : TGood A n (r + 1) s) (hW : s.wlk = (v, k) :: rest) (hk : k = (A v).length) (hlow : s.low v = s.idx v) (hS : s.stk = S ++ v :: stk') (hvS : v ∉ S) (hnd : s.stk.Nodup) (hR : Rel3 N w n s v rest S stk' vw vc S.length vf wr) :
    Code.wp Try.prog c (Exit.inBlock 3 (Exit.then K (Exit.inBlock 2 (Exit.inBlock 1 (Exit.then K1 (Exit.then K2 (Exit.inBlock 0 (Exit.then K3 (bodyPost Try.prog Try.f30 R))))))))) { tmps := #[.slice a n cap, x1, x2, .pointer (some ⟨N + 1, 0, none⟩), .pointer (some ⟨N + 3, 0, none⟩), .pointer (some ⟨N + 5, 0, none⟩), .pointer (some ⟨N + 6, 0, none⟩), vf, vc, .pointer (some ⟨N + 7, 0, none⟩), .pointer (some ⟨N + 8, 0, none⟩), .func (.func 33) #[] #[.pointer (some ⟨N + 8, 0, none⟩), .pointer (some ⟨N + 1, 0, none⟩), .pointer (some ⟨N + 3, 0, none⟩), .pointer (some ⟨N + 6, 0, none⟩), .pointer (some ⟨N + 5, 0, none⟩), .pointer (some ⟨N + 7, 0, none⟩)], x12, u13, u14, .int .i64 (v : Int), u16, u17, x18, x19, x20, x21, x22, x23, x24, x25, x26, x27, x28, x29, x30, x31, x32, x33, x34, x35, x36, x37, x38, x39, x40, u41, u42, u43, u44, u45, u46, u47, u48, u49, u50, u51, u52, u53, u54, u55, u56, u57, u58, u59, u60, u61, u62, u63, u64, u65, u66, u67, u68, u69, u70, u71, u72, u73, u74, u75, u76, u77, u78, u79, u80, u81, u82, u83, u84, u85, u86, u87, u88, u89, u90, u91, u92, u93, u94, u95, u96, u97, u98, u99, u100, u101, u102, u103, u104, u105, u106, u107, u108, u109, u110, u111, u112, u113, u114, u115, u116, u117, u118, u119, u120, u121, u122, u123, u124, u125, u126, u127, u128, u129, u130, u131, u132, u133, u134, u135, u136, u137, u138, u139, u140, u141, u142, u143, u144, u145, u146, u147, u148, u149, u150, u151, u152, u153, u154, u155, u156, u157, u158, u159, u160, u161, u162, u163, u164, u165, u166, u167, u168, u169, u170, u171, u172, u173, u174, u175, u176, u177, u178, u179, u180, u181, u182, u183, u184, u185, u186, x187, x188], defers := [] } wr := by
  conv at hc => lhs; whnf
  obtain rfl := Option.some.inj hc
  clear hc
  obtain ⟨i3, hi3, hz3, hs3, hb3⟩ := info_parts info3
  have HI : Hid (gk = mu A n s ∧ TGood A n (r + 1) s ∧ s.wlk = (v, k) :: rest ∧ k = (A v).length ∧ s.low v = s.idx v ∧ s.stk = S ++ v :: stk' ∧ v ∉ S ∧ s.stk.Nodup) := ⟨hmu, hG, hW, hk, hlow, hS, hvS, hnd⟩
  have HR : Hid (Rel3 N w n s v rest S stk' vw vc S.length vf wr) := hR
  clear hmu hG hW hk hlow hS hvS hnd hR
  go_wp2_with fail
  go_loopg [7] S.length (fun k3 v7 wq => ∃ vq, vq = v7 ∧ Hid (Rel3 N w n s v rest S stk' vw vc k3 vq wq))
  case atStart => exact ⟨vf, rfl, HR⟩
  case round =>
    clear HR
    obtain ⟨vq, hv7, H2⟩ := hrel
    subst hv7
    obtain ⟨S1, S2, vs, hSS, hk3, hM⟩ := H2.out
    obtain ⟨hmu, hG, hW, hk, hlow, hS, hvS, hnd⟩ := HI.out
    clear H2
    cases S2 with
    | cons y S2 =>
      obtain ⟨X, hXe⟩ : ∃ X, X = S2 ++ v :: stk' := ⟨_, rfl⟩
      have HXE : y :: S2 ++ v :: stk' = y :: X := by rw [hXe]; rfl
      rw [HXE] at hM
      obtain ⟨g, cap3, hvs, hcap3, hg9⟩ := hM.2.1.shapeStk
      subst hvs
      have hXl : X.length + 1 ≤ n := by
        have h1 := hG.inv.stk_len
        have h2 : s.stk.length = S1.length + (X.length + 1) := by rw [hS, hSS, List.append_assoc, HXE]; simp
        omega
      have hSl : S1.length + 1 ≤ n := by
        have h1 := hG.inv.stk_len
        have h2 : s.stk.length = S1.length + (X.length + 1) := by rw [hS, hSS, List.append_assoc, HXE]; simp
        omega
      have hxs : y ∈ s.stk := by rw [hS, hSS, List.append_assoc, HXE]; simp
      have hxn : y < n := hG.inv.idx_lt y (hG.inv.stk_idx y hxs)
      have hxX : y ∉ X := by
        have h1 := hnd
        rw [hS, hSS, List.append_assoc, HXE] at h1
        exact (List.nodup_cons.1 (List.nodup_append.1 h1).2.1).1
      have c6 := hM.1.bstk.cell
      have f6 := hM.1.bstk.frozen
      have ctop := hM.2.1.topStk
      have c5 := hM.1.bon.cell
      have cO := hM.1.on.cell hxn
      have fO := hM.1.on.frozen y
      have hsz := hM.2.1.size
      have H3 : Hid (M3 N w n s.idx (lift s v rest) s.cnt (.slice (some ⟨g, 0, none⟩) X.length cap3) vw vq vc X rest S1 s.cmp ((wr.setCell ⟨N + 6, 0, none⟩ (.slice (some ⟨g, 0, none⟩) X.length cap3)).setCell ⟨N + 4, y, none⟩ (.bool false))) := hM.pop hxX
      have hyv : ((y : Int) == (v : Int)) = false := by
        rw [beq_eq_false_iff_ne]
        intro e
        have e' : y = v := by omega
        exact hvS (by rw [hSS, ← e']; simp)
      have HY : Hid (S = S1 ++ y :: S2 ∧ X = S2 ++ v :: stk' ∧ _ = (y :: S2).length) := ⟨hSS, hXe, hk3⟩
      clear hM hmu hG hW hk hlow hS hvS hnd hSS hXe hk3 HXE hxX hxs
      go_wp2_with (at_builtin; (refine wpList_append_out _ rfl (.tmp 171) (.tmp 173) 29 rfl (N + 9) 3 i3 (.int .i64 0) 1 8 Try.underlying29 hi3 hz3 hs3 hb3 rfl (by decide) _ S1.length (S1.map enc) rfl (H3.out.2.1.fnd.alloc _) ⟨wr.heap.size, 0, none⟩ 1 1 [.int .i64 (y : Int)] rfl rfl ?d1 ?d2 (by omega) ?d3 ?d4 ?d5 ?d6))
      case d1 => exact news_one _ _ (by simp) _ _
      case d2 => intro u hu; simp at hu; subst hu; rfl
      case d3 => unfold maxLen; omega
      case d4 => omega
      case d5 => simp; omega
      intro g' c' w4 hown4 hgrow4 hblk4
      have H4 : Hid (M3 N w n s.idx (lift s v rest) s.cnt (.slice (some ⟨g, 0, none⟩) X.length cap3) vw (.slice (some ⟨g', 0, none⟩) (S1.length + 1) c') vc X rest (S1 ++ [y]) s.cmp w4) := H3.out.found hown4 hgrow4 (by simpa using hblk4)
      clear hown4 hgrow4 hblk4 H3 c6 f6 c5 cO fO ctop
      go_wp2
      go_roundg S2.length
      case measure => rw [HY.out.2.2]; simp
      case rel => exact ⟨_, rfl, S1 ++ [y], S2, _, by rw [HY.out.1]; simp, rfl, by rw [← HY.out.2.1]; exact H4.out⟩
    | nil =>
      obtain ⟨X, hXe⟩ : ∃ X, X = stk' := ⟨_, rfl⟩
      have HXE : [] ++ v :: stk' = v :: X := by rw [hXe]; rfl
      rw [HXE] at hM
      obtain ⟨g, cap3, hvs, hcap3, hg9⟩ := hM.2.1.shapeStk
      subst hvs
      have hXl : X.length + 1 ≤ n := by
        have h1 := hG.inv.stk_len
        have h2 : s.stk.length = S1.length + (X.length + 1) := by rw [hS, hSS, List.append_assoc, HXE]; simp
        omega
      have hSl : S1.length + 1 ≤ n := by
        have h1 := hG.inv.stk_len
        have h2 : s.stk.length = S1.length + (X.length + 1) := by rw [hS, hSS, List.append_assoc, HXE]; simp
        omega
      have hxs : v ∈ s.stk := by rw [hS, hSS, List.append_assoc, HXE]; simp
      have hxn : v < n := hG.inv.idx_lt v (hG.inv.stk_idx v hxs)
      have hxX : v ∉ X := by
        have h1 := hnd
        rw [hS, hSS, List.append_assoc, HXE] at h1
        exact (List.nodup_cons.1 (List.nodup_append.1 h1).2.1).1
      have c6 := hM.1.bstk.cell
      have f6 := hM.1.bstk.frozen
      have ctop := hM.2.1.topStk
      have c5 := hM.1.bon.cell
      have cO := hM.1.on.cell hxn
      have fO := hM.1.on.frozen v
      have hsz := hM.2.1.size
      have H3 : Hid (M3 N w n s.idx (lift s v rest) s.cnt (.slice (some ⟨g, 0, none⟩) X.length cap3) vw vq vc X rest S1 s.cmp ((wr.setCell ⟨N + 6, 0, none⟩ (.slice (some ⟨g, 0, none⟩) X.length cap3)).setCell ⟨N + 4, v, none⟩ (.bool false))) := hM.pop hxX
      have hfew : s.cmp.length ≤ 4096 := by
        have h1 := hG.few
        have h2 := hG.cnt_le
        omega
      have HY : Hid (S = S1 ∧ X = stk') := ⟨by rw [hSS, List.append_nil], hXe⟩
      clear hM hmu hG hW hk hlow hS hvS hnd hSS hXe hk3 HXE hxX hxs
      go_wp2_with (at_builtin; (refine wpList_append_out _ rfl (.tmp 171) (.tmp 173) 29 rfl (N + 9) 3 i3 (.int .i64 0) 1 8 Try.underlying29 hi3 hz3 hs3 hb3 rfl (by decide) _ S1.length (S1.map enc) rfl (H3.out.2.1.fnd.alloc _) ⟨wr.heap.size, 0, none⟩ 1 1 [.int .i64 (v : Int)] rfl rfl ?q1 ?q2 (by omega) ?q3 ?q4 ?q5 ?q6))
      case q1 => exact news_one _ _ (by simp) _ _
      case q2 => intro u hu; simp at hu; subst hu; rfl
      case q3 => unfold maxLen; omega
      case q4 => omega
      case q5 => simp; omega
      intro g' c' w4 hown4 hgrow4 hblk4
      have H4 : Hid (M3 N w n s.idx (lift s v rest) s.cnt (.slice (some ⟨g, 0, none⟩) X.length cap3) vw (.slice (some ⟨g', 0, none⟩) (S1.length + 1) c') vc X rest (S1 ++ [v]) s.cmp w4) := H3.out.found hown4 hgrow4 (by simpa using hblk4)
      clear hown4 hgrow4 hblk4 H3 c6 f6 c5 cO fO ctop
      by_cases h1 : S1.length = 0
      · go_wp2
        go_roundg (mu A n (emitted s v rest S stk'))
        case measure =>
          obtain ⟨hmu, hG, hW, hk, hlow, hS, hvS, hnd⟩ := HI.out
          rw [hmu]
          exact mu_pop hW rfl rfl
        case rel =>
          obtain ⟨hmu, hG, hW, hk, hlow, hS, hvS, hnd⟩ := HI.out
          have hm : more s.cmp (S ++ [v]) = s.cmp := by
            unfold more
            rw [if_neg (by rw [HY.out.1, List.length_append, h1]; show ¬ 1 < 0 + 1; omega)]
          have h4 := H4.out
          rw [HY.out.2, ← hm] at h4
          exact ⟨_, _, _, _, rfl, hG.emitted hW hk hlow hS, h4.1, h4.2.1, h4.2.2⟩
      · have h2 : 0 < S1.length := by omega
        clear h1
        go_wp2_with fail
        refine ((callsIn_wide (n := 3)).1 (It.values_in Fence.wide 3 trivial rfl (some ⟨g', 0, none⟩) (S1.length + 1) c' w4)).mono ?_
        rintro e w5 ⟨rfl, hw5⟩
        have hsz4 := H4.out.2.1.size
        have hcv : w5.cell? ⟨w4.heap.size, 0, none⟩ = some (.slice (some ⟨g', 0, none⟩) (S1.length + 1) c') := by rw [hw5]; simp
        have hs5 : w5.heap.size = w4.heap.size + 1 := by rw [hw5]; simp
        have H5 : Hid (M3 N w n s.idx (lift s v rest) s.cnt (.slice (some ⟨g, 0, none⟩) X.length cap3) vw (.slice (some ⟨g', 0, none⟩) (S1.length + 1) c') vc X rest (S1 ++ [v]) s.cmp w5) := by
          rw [hw5]
          exact H4.out.keep ((Below.refl _ _).alloc (Nat.le_refl _) _)
        clear hw5 H4
        have HCV : Hid (w5.cell? ⟨w4.heap.size, 0, none⟩ = some (.slice (some ⟨g', 0, none⟩) (S1.length + 1) c')) := hcv
        clear hcv
        go_wp2_with fail
        refine (sorted_any w4.heap.size (.slice (some ⟨g', 0, none⟩) (S1.length + 1) c') (castL (S1 ++ [v])) (by simp [castL]) (by simp [castL]; omega) _ (by omega) HCV.out (H5.out.ints (by simp))).mono ?_
        rintro e w6 hN
        obtain ⟨gn, cn, rfl, hown6, hb6⟩ := newRow_cast hN
        clear hN HCV
        obtain ⟨cc, hcc⟩ : ∃ cc, cc = (S1 ++ [v]).mergeSort (fun a b => decide (a ≤ b)) := ⟨_, rfl⟩
        rw [← hcc] at hown6 ⊢
        have H6 : Hid (M3 N w n s.idx (lift s v rest) s.cnt (.slice (some ⟨g, 0, none⟩) X.length cap3) vw (.slice (some ⟨g', 0, none⟩) (S1.length + 1) c') vc X rest (S1 ++ [v]) s.cmp w6) := H5.out.keep hb6
        obtain ⟨us, hus1, hus2⟩ := H6.out.2.1.cmp
        have hsz6 := H6.out.2.1.size
        have HU : Hid (w6.ownsRow (N + 9) 29 1 vc s.cmp.length us ∧ (∀ i, i < s.cmp.length → ∃ u, us[i]? = some u ∧ RowAt w6 (Free N (.slice (some ⟨g, 0, none⟩) X.length cap3) vw (.slice (some ⟨g', 0, none⟩) (S1.length + 1) c') vc w6.heap.size) u (castL (s.cmp.getD i []))) ∧
          w6.ownsRow w5.heap.size 3 1 (.slice (some ⟨gn, 0, none⟩) cc.length cn) cc.length ((castL cc).map (Value.int .i64)) ∧ cc = (S1 ++ [v]).mergeSort (fun a b => decide (a ≤ b))) := ⟨hus1, hus2, hown6, hcc⟩
        clear hus1 hus2 hown6 hb6 hcc
        obtain ⟨i29, hi29, hz29, hs29, hb29⟩ := info_parts info29
        go_wp2_with (at_builtin; (refine wpList_append_out _ rfl (.tmp 181) (.tmp 185) 22 rfl (N + 9) 29 i29 (.slice none 0 0) 1 24 Try.underlying22 hi29 hz29 hs29 hb29 rfl (by decide) _ s.cmp.length us rfl (HU.out.1.alloc _) ⟨w6.heap.size, 0, none⟩ 1 1 [.slice (some ⟨gn, 0, none⟩) cc.length cn] rfl rfl ?e1 ?e2 (by omega) ?e3 ?e4 ?e5 ?e6))
        case e1 => exact news_one _ _ rfl _ _
        case e2 => intro u hu; simp at hu; subst hu; rfl
        case e3 => unfold maxLen; omega
        case e4 => omega
        case e5 => simp; omega
        intro g7 c7 w7 hown7 hgrow7 hblk7
        have H7 : Hid (M3 N w n s.idx (lift s v rest) s.cnt (.slice (some ⟨g, 0, none⟩) X.length cap3) vw (.slice (some ⟨g', 0, none⟩) (S1.length + 1) c') (.slice (some ⟨g7, 0, none⟩) (s.cmp.length + 1) c7) X rest (S1 ++ [v]) (s.cmp ++ [cc]) w7) :=
          H6.out.comp H5.out.own H5.out.2.1.size HU.out.2.2.1 HU.out.1 HU.out.2.1 hown7 hgrow7 (by simpa using hblk7)
        clear hown7 hgrow7 hblk7 H6 H5
        go_wp2
        go_roundg (mu A n (emitted s v rest S stk'))
        case measure =>
          obtain ⟨hmu, hG, hW, hk, hlow, hS, hvS, hnd⟩ := HI.out
          rw [hmu]
          exact mu_pop hW rfl rfl
        case rel =>
          obtain ⟨hmu, hG, hW, hk, hlow, hS, hvS, hnd⟩ := HI.out
          have hm : more s.cmp (S ++ [v]) = s.cmp ++ [cc] := by
            unfold more
            rw [if_pos (by rw [HY.out.1, List.length_append]; show 1 < S1.length + 1; omega), HU.out.2.2.2, HY.out.1]
          have h4 := H7.out
          rw [HY.out.2, ← hm] at h4
          exact ⟨_, _, _, _, rfl, hG.emitted hW hk hlow hS, h4.1, h4.2.1, h4.2.2⟩
end Go.Proofs.Qxb6603228a
