/-
  components: a round of the second loop that follows an edge to a node that it knows.
-/
import Derived.Test.Qxb6603228aCompB
namespace Go.Proofs.Qxb6603228a
open Go.RowKit Tj

set_option maxHeartbeats 1000000 in
set_option maxRecDepth 1000000 in
theorem round_off (A : Nat → List Nat) (n r N cap : Nat) (a : Option Addr) (w wr : World) (gk : Nat) (vf vc : Value) (s : St) (vs : Value) (gw cw v k to : Nat) (rest : List (Nat × Nat)) (fnd : List Nat)
    (u13 u14 u15 u16 u17 u41 u42 u43 u44 u45 u46 u47 u48 u49 u50 u51 u52 u53 u54 u55 u56 u57 u58 u59 u60 u61 u62 u63 u64 u65 u66 u67 u68 u69 u70 u71 u72 u73 u74 u75 u76 u77 u78 u79 u80 u81 u82 u83 u84 u85 u86 u87 u88 u89 u90 u91 u92 u93 u94 u95 u96 u97 u98 u99 u100 u101 u102 u103 u104 u105 u106 u107 u108 u109 u110 u111 u112 u113 u114 u115 u116 u117 u118 u119 u120 u121 u122 u123 u124 u125 u126 u127 u128 u129 u130 u131 u132 u133 u134 u135 u136 u137 u138 u139 u140 u141 u142 u143 u144 u145 u146 u147 u148 u149 u150 u151 u152 u153 u154 u155 u156 u157 u158 u159 u160 u161 u162 u163 u164 u165 u166 u167 u168 u169 u170 u171 u172 u173 u174 u175 u176 u177 u178 u179 u180 u181 u182 u183 u184 u185 u186 : Value) (x1 x2 x12 x18 x19 x20 x21 x22 x23 x24 x25 x26 x27 x28 x29 x30 x31 x32 x33 x34 x35 x36 x37 x38 x39 x40 x187 x188 : Value)
    (c : Code) (hc : (Try.f30.body.bind loopIn).bind loopIn = some c) (R : Ending → World → Prop) (J : Nat → Act → World → Prop) (K K1 K2 K3 : Act → World → Prop)
    (hJ : ∀ (k' : Nat) (a' : Act) (w' : World), (∃ u7 u8 u13 u14 u15 u16 u17 u41 u42 u43 u44 u45 u46 u47 u48 u49 u50 u51 u52 u53 u54 u55 u56 u57 u58 u59 u60 u61 u62 u63 u64 u65 u66 u67 u68 u69 u70 u71 u72 u73 u74 u75 u76 u77 u78 u79 u80 u81 u82 u83 u84 u85 u86 u87 u88 u89 u90 u91 u92 u93 u94 u95 u96 u97 u98 u99 u100 u101 u102 u103 u104 u105 u106 u107 u108 u109 u110 u111 u112 u113 u114 u115 u116 u117 u118 u119 u120 u121 u122 u123 u124 u125 u126 u127 u128 u129 u130 u131 u132 u133 u134 u135 u136 u137 u138 u139 u140 u141 u142 u143 u144 u145 u146 u147 u148 u149 u150 u151 u152 u153 u154 u155 u156 u157 u158 u159 u160 u161 u162 u163 u164 u165 u166 u167 u168 u169 u170 u171 u172 u173 u174 u175 u176 u177 u178 u179 u180 u181 u182 u183 u184 u185 u186 : Value, Rel2 A n r N w k' u7 u8 w' ∧ a' = { tmps := #[.slice a n cap, x1, x2, .pointer (some ⟨N + 1, 0, none⟩), .pointer (some ⟨N + 3, 0, none⟩), .pointer (some ⟨N + 5, 0, none⟩), .pointer (some ⟨N + 6, 0, none⟩), u7, u8, .pointer (some ⟨N + 7, 0, none⟩), .pointer (some ⟨N + 8, 0, none⟩), .func (.func 33) #[] #[.pointer (some ⟨N + 8, 0, none⟩), .pointer (some ⟨N + 1, 0, none⟩), .pointer (some ⟨N + 3, 0, none⟩), .pointer (some ⟨N + 6, 0, none⟩), .pointer (some ⟨N + 5, 0, none⟩), .pointer (some ⟨N + 7, 0, none⟩)], x12, u13, u14, u15, u16, u17, x18, x19, x20, x21, x22, x23, x24, x25, x26, x27, x28, x29, x30, x31, x32, x33, x34, x35, x36, x37, x38, x39, x40, u41, u42, u43, u44, u45, u46, u47, u48, u49, u50, u51, u52, u53, u54, u55, u56, u57, u58, u59, u60, u61, u62, u63, u64, u65, u66, u67, u68, u69, u70, u71, u72, u73, u74, u75, u76, u77, u78, u79, u80, u81, u82, u83, u84, u85, u86, u87, u88, u89, u90, u91, u92, u93, u94, u95, u96, u97, u98, u99, u100, u101, u102, u103, u104, u105, u106, u107, u108, u109, u110, u111, u112, u113, u114, u115, u116, u117, u118, u119, u120, u121, u122, u123, u124, u125, u126, u127, u128, u129, u130, u131, u132, u133, u134, u135, u136, u137, u138, u139, u140, u141, u142, u143, u144, u145, u146, u147, u148, u149, u150, u151, u152, u153, u154, u155, u156, u157, u158, u159, u160, u161, u162, u163, u164, u165, u166, u167, u168, u169, u170, u171, u172, u173, u174, u175, u176, u177, u178, u179, u180, u181, u182, u183, u184, u185, u186, x187, x188], defers := [] }) → J k' a' w')
    (hK : ∀ (a' : Act) (w' : World), Handed J gk a' w' → K a' w')
    (hn : n ≤ 4096) (hO : Outs A n N a w) (hmu : gk = mu A n s) (hG : TGood A n (r + 1) s) (hW : s.wlk = (v, k) :: rest) (hC : CM N w n s vs (.slice (some ⟨gw, 0, none⟩) (rest.length + 1) cw) vf vc fnd wr) (hk : (A v)[k]? = some to) (h0 : s.idx to ≠ 0) (hst : to ∉ s.stk) :
    Code.wp Try.prog c (Exit.then K (Exit.inBlock 2 (Exit.inBlock 1 (Exit.then K1 (Exit.then K2 (Exit.inBlock 0 (Exit.then K3 (bodyPost Try.prog Try.f30 R)))))))) { tmps := #[.slice a n cap, x1, x2, .pointer (some ⟨N + 1, 0, none⟩), .pointer (some ⟨N + 3, 0, none⟩), .pointer (some ⟨N + 5, 0, none⟩), .pointer (some ⟨N + 6, 0, none⟩), vf, vc, .pointer (some ⟨N + 7, 0, none⟩), .pointer (some ⟨N + 8, 0, none⟩), .func (.func 33) #[] #[.pointer (some ⟨N + 8, 0, none⟩), .pointer (some ⟨N + 1, 0, none⟩), .pointer (some ⟨N + 3, 0, none⟩), .pointer (some ⟨N + 6, 0, none⟩), .pointer (some ⟨N + 5, 0, none⟩), .pointer (some ⟨N + 7, 0, none⟩)], x12, u13, u14, u15, u16, u17, x18, x19, x20, x21, x22, x23, x24, x25, x26, x27, x28, x29, x30, x31, x32, x33, x34, x35, x36, x37, x38, x39, x40, u41, u42, u43, u44, u45, u46, u47, u48, u49, u50, u51, u52, u53, u54, u55, u56, u57, u58, u59, u60, u61, u62, u63, u64, u65, u66, u67, u68, u69, u70, u71, u72, u73, u74, u75, u76, u77, u78, u79, u80, u81, u82, u83, u84, u85, u86, u87, u88, u89, u90, u91, u92, u93, u94, u95, u96, u97, u98, u99, u100, u101, u102, u103, u104, u105, u106, u107, u108, u109, u110, u111, u112, u113, u114, u115, u116, u117, u118, u119, u120, u121, u122, u123, u124, u125, u126, u127, u128, u129, u130, u131, u132, u133, u134, u135, u136, u137, u138, u139, u140, u141, u142, u143, u144, u145, u146, u147, u148, u149, u150, u151, u152, u153, u154, u155, u156, u157, u158, u159, u160, u161, u162, u163, u164, u165, u166, u167, u168, u169, u170, u171, u172, u173, u174, u175, u176, u177, u178, u179, u180, u181, u182, u183, u184, u185, u186, x187, x188], defers := [] } wr := by
  conv at hc => lhs; whnf
  obtain rfl := Option.some.inj hc
  clear hc
  have ht := hG.top hW
  obtain ⟨hkl, hkt⟩ := List.getElem?_eq_some_iff.1 hk
  have hto : to < n := hO.2.2 v ht.1 to (by rw [← hkt]; exact List.getElem_mem _)
  have hwl : rest.length + 1 ≤ n := by have := hG.inv.wlk_len; rw [hW] at this; simpa using this
  have hdl := hO.2.1 v ht.1
  obtain ⟨hvn, _⟩ := ht
  obtain ⟨b, off, hb1, hb2, hb3⟩ := hO.1 (by omega)
  obtain ⟨au, cu, hb4, hb5⟩ := hb3 v hvn
  obtain ⟨b2, off2, hb6, hb7, hb8⟩ := hb5 (by omega)
  have c46 := (hC.below.cell hb2).trans hb4
  have hb9 := hb8 k hkl
  have e1 : (A v).getD k 0 = to := by rw [List.getD_eq_getElem?_getD, hk]; rfl
  rw [e1] at hb9
  have c47 := (hC.below.cell hb7).trans hb9
  have hom := hC.om
  rw [hW] at hom
  have htop := hom.topWlk
  have c7 := hC.fm.bwlk.cell
  have ctop1 := htop.1
  have ctop2 := htop.2.1
  have ftop := htop.2.2
  have hgw : N + 9 ≤ gw := (hom.wlk.lt gw rfl).1
  have x46 := fun w => at46 (cap := cap) hb1 hvn w
  have x47 := fun w => at47 (cap := cu) hb6 hkl w
  have HC : Hid (Outs A n N a w ∧ gk = mu A n s ∧ TGood A n (r + 1) s ∧ s.wlk = (v, k) :: rest ∧ CM N w n s vs (.slice (some ⟨gw, 0, none⟩) (rest.length + 1) cw) vf vc fnd wr ∧ (A v)[k]? = some to ∧ s.idx to ≠ 0) := ⟨hO, hmu, hG, hW, hC, hk, h0⟩
  have cidx := hC.fm.bidx.cell
  have ci := hC.fm.idx.cell hto
  unfold enc at ci
  obtain ⟨it, hit⟩ : ∃ it, it = s.idx to := ⟨_, rfl⟩
  rw [← hit] at ci
  have h0' : ((it : Int) == 0) = false := by rw [beq_eq_false_iff_ne]; rw [← hit] at h0; omega
  have HIT : Hid (it = s.idx to) := hit
  have con := hC.fm.bon.cell
  have conb := hC.fm.on.cell hto
  simp only [hst, decide_false] at conb
  clear hit
  obtain ⟨L, hL⟩ : ∃ L, L = rest.length := ⟨_, rfl⟩
  rw [← hL] at hwl c7 ctop1 ctop2 ftop
  obtain ⟨D, hD⟩ : ∃ D, D = (A v).length := ⟨_, rfl⟩
  rw [← hD] at hkl hdl c46 x47
  have HL : Hid (L = rest.length) := hL
  have HD : Hid (D = (A v).length) := hD
  clear hL hD
  clear hkt hb1 hb2 hb3 hb4 hb5 hb6 hb7 hb8 hb9 e1 hom htop hO hmu hG hW hC hk h0
  go_wp2
  go_quiet (fail)
  go_wp2
  go_quiet (fail)
  go_wp2_with fail
  have hL := HL.out
  subst hL
  have h1 := fun m => HC.out.2.2.2.2.1.nexted (m := m) HC.out.2.2.2.1
  go_roundg (mu A n (Tj.follow s v k rest (s.low v)))
  case measure =>
    obtain ⟨hO, hmu, hG, hW, hC, hk, h0⟩ := HC.out
    rw [hmu]; exact mu_follow hW hk
  case rel =>
    obtain ⟨hO, hmu, hG, hW, hC, hk, h0⟩ := HC.out
    refine ⟨_, _, _, _, rfl, hG.follow hW hk h0 (.inr ⟨hst, rfl⟩), (h1 _).1.congr (fun _ => rfl) (fun i => ?_) (fun _ => rfl), (h1 _).2.1, (h1 _).2.2⟩
    show s.low i = upd s.low v (s.low v) i
    by_cases e : i = v
    · subst e; rw [upd_same]
    · rw [upd_other _ _ e]
end Go.Proofs.Qxb6603228a
