/-
  components: a round of the second loop.
-/
import Derived.Test.Qxb6603228aCompV
import Derived.Test.Qxb6603228aCompF
import Derived.Test.Qxb6603228aCompO
import Derived.Test.Qxb6603228aCompN
import Derived.Test.Qxb6603228aCompP
import Derived.Test.Qxb6603228aCompT
namespace Go.Proofs.Qxb6603228a
open Go.RowKit Tj

set_option maxRecDepth 1000000 in
theorem put28 : ∃ t, ((Try.f30.body.bind loopIn).bind loopIn).bind (after 28) = some t ∧ ∀ c, ((Try.f30.body.bind loopIn).bind loopIn) = some c → ((Try.f30.body.bind loopIn).bind loopIn).map (putAfter 28 t) = some c := by
  refine ⟨_, rfl, fun c hc => ?_⟩
  rw [← hc]
  rfl

set_option maxRecDepth 1000000 in
theorem put29 : ∃ t, ((Try.f30.body.bind loopIn).bind loopIn).bind (after 29) = some t ∧ ∀ c, ((Try.f30.body.bind loopIn).bind loopIn).bind (after 28) = some c → (((Try.f30.body.bind loopIn).bind loopIn).bind (after 28)).map (putAfter 29 t) = some c := by
  refine ⟨_, rfl, fun c hc => ?_⟩
  rw [← hc]
  rfl

set_option maxHeartbeats 2000000 in
set_option maxRecDepth 1000000 in
theorem round_any (A : Nat → List Nat) (n r N cap : Nat) (a : Option Addr) (w wr : World) (gk : Nat) (vf vc : Value) (s : St) (vs vw : Value) (v k : Nat) (rest : List (Nat × Nat)) (fnd : List Nat)
    (u13 u14 u15 u16 u17 u41 u42 u43 u44 u45 u46 u47 u48 u49 u50 u51 u52 u53 u54 u55 u56 u57 u58 u59 u60 u61 u62 u63 u64 u65 u66 u67 u68 u69 u70 u71 u72 u73 u74 u75 u76 u77 u78 u79 u80 u81 u82 u83 u84 u85 u86 u87 u88 u89 u90 u91 u92 u93 u94 u95 u96 u97 u98 u99 u100 u101 u102 u103 u104 u105 u106 u107 u108 u109 u110 u111 u112 u113 u114 u115 u116 u117 u118 u119 u120 u121 u122 u123 u124 u125 u126 u127 u128 u129 u130 u131 u132 u133 u134 u135 u136 u137 u138 u139 u140 u141 u142 u143 u144 u145 u146 u147 u148 u149 u150 u151 u152 u153 u154 u155 u156 u157 u158 u159 u160 u161 u162 u163 u164 u165 u166 u167 u168 u169 u170 u171 u172 u173 u174 u175 u176 u177 u178 u179 u180 u181 u182 u183 u184 u185 u186 : Value) (x1 x2 x12 x18 x19 x20 x21 x22 x23 x24 x25 x26 x27 x28 x29 x30 x31 x32 x33 x34 x35 x36 x37 x38 x39 x40 x187 x188 : Value)
    (c : Code) (hc : (Try.f30.body.bind loopIn).bind loopIn = some c) (R : Ending → World → Prop) (J : Nat → Act → World → Prop) (K K1 K2 K3 : Act → World → Prop)
    (hJ : ∀ (k' : Nat) (a' : Act) (w' : World), (∃ u7 u8 u13 u14 u15 u16 u17 u41 u42 u43 u44 u45 u46 u47 u48 u49 u50 u51 u52 u53 u54 u55 u56 u57 u58 u59 u60 u61 u62 u63 u64 u65 u66 u67 u68 u69 u70 u71 u72 u73 u74 u75 u76 u77 u78 u79 u80 u81 u82 u83 u84 u85 u86 u87 u88 u89 u90 u91 u92 u93 u94 u95 u96 u97 u98 u99 u100 u101 u102 u103 u104 u105 u106 u107 u108 u109 u110 u111 u112 u113 u114 u115 u116 u117 u118 u119 u120 u121 u122 u123 u124 u125 u126 u127 u128 u129 u130 u131 u132 u133 u134 u135 u136 u137 u138 u139 u140 u141 u142 u143 u144 u145 u146 u147 u148 u149 u150 u151 u152 u153 u154 u155 u156 u157 u158 u159 u160 u161 u162 u163 u164 u165 u166 u167 u168 u169 u170 u171 u172 u173 u174 u175 u176 u177 u178 u179 u180 u181 u182 u183 u184 u185 u186 : Value, Rel2 A n r N w k' u7 u8 w' ∧ a' = { tmps := #[.slice a n cap, x1, x2, .pointer (some ⟨N + 1, 0, none⟩), .pointer (some ⟨N + 3, 0, none⟩), .pointer (some ⟨N + 5, 0, none⟩), .pointer (some ⟨N + 6, 0, none⟩), u7, u8, .pointer (some ⟨N + 7, 0, none⟩), .pointer (some ⟨N + 8, 0, none⟩), .func (.func 33) #[] #[.pointer (some ⟨N + 8, 0, none⟩), .pointer (some ⟨N + 1, 0, none⟩), .pointer (some ⟨N + 3, 0, none⟩), .pointer (some ⟨N + 6, 0, none⟩), .pointer (some ⟨N + 5, 0, none⟩), .pointer (some ⟨N + 7, 0, none⟩)], x12, u13, u14, u15, u16, u17, x18, x19, x20, x21, x22, x23, x24, x25, x26, x27, x28, x29, x30, x31, x32, x33, x34, x35, x36, x37, x38, x39, x40, u41, u42, u43, u44, u45, u46, u47, u48, u49, u50, u51, u52, u53, u54, u55, u56, u57, u58, u59, u60, u61, u62, u63, u64, u65, u66, u67, u68, u69, u70, u71, u72, u73, u74, u75, u76, u77, u78, u79, u80, u81, u82, u83, u84, u85, u86, u87, u88, u89, u90, u91, u92, u93, u94, u95, u96, u97, u98, u99, u100, u101, u102, u103, u104, u105, u106, u107, u108, u109, u110, u111, u112, u113, u114, u115, u116, u117, u118, u119, u120, u121, u122, u123, u124, u125, u126, u127, u128, u129, u130, u131, u132, u133, u134, u135, u136, u137, u138, u139, u140, u141, u142, u143, u144, u145, u146, u147, u148, u149, u150, u151, u152, u153, u154, u155, u156, u157, u158, u159, u160, u161, u162, u163, u164, u165, u166, u167, u168, u169, u170, u171, u172, u173, u174, u175, u176, u177, u178, u179, u180, u181, u182, u183, u184, u185, u186, x187, x188], defers := [] }) → J k' a' w')
    (hK : ∀ (a' : Act) (w' : World), Handed J gk a' w' → K a' w')
    (hn : n ≤ 4096) (hO : Outs A n N a w) (hmu : gk = mu A n s) (hG : TGood A n (r + 1) s) (hW : s.wlk = (v, k) :: rest) (hC : CM N w n s vs vw vf vc fnd wr) :
    Code.wp Try.prog c (Exit.then K (Exit.inBlock 2 (Exit.inBlock 1 (Exit.then K1 (Exit.then K2 (Exit.inBlock 0 (Exit.then K3 (bodyPost Try.prog Try.f30 R)))))))) { tmps := #[.slice a n cap, x1, x2, .pointer (some ⟨N + 1, 0, none⟩), .pointer (some ⟨N + 3, 0, none⟩), .pointer (some ⟨N + 5, 0, none⟩), .pointer (some ⟨N + 6, 0, none⟩), vf, vc, .pointer (some ⟨N + 7, 0, none⟩), .pointer (some ⟨N + 8, 0, none⟩), .func (.func 33) #[] #[.pointer (some ⟨N + 8, 0, none⟩), .pointer (some ⟨N + 1, 0, none⟩), .pointer (some ⟨N + 3, 0, none⟩), .pointer (some ⟨N + 6, 0, none⟩), .pointer (some ⟨N + 5, 0, none⟩), .pointer (some ⟨N + 7, 0, none⟩)], x12, u13, u14, u15, u16, u17, x18, x19, x20, x21, x22, x23, x24, x25, x26, x27, x28, x29, x30, x31, x32, x33, x34, x35, x36, x37, x38, x39, x40, u41, u42, u43, u44, u45, u46, u47, u48, u49, u50, u51, u52, u53, u54, u55, u56, u57, u58, u59, u60, u61, u62, u63, u64, u65, u66, u67, u68, u69, u70, u71, u72, u73, u74, u75, u76, u77, u78, u79, u80, u81, u82, u83, u84, u85, u86, u87, u88, u89, u90, u91, u92, u93, u94, u95, u96, u97, u98, u99, u100, u101, u102, u103, u104, u105, u106, u107, u108, u109, u110, u111, u112, u113, u114, u115, u116, u117, u118, u119, u120, u121, u122, u123, u124, u125, u126, u127, u128, u129, u130, u131, u132, u133, u134, u135, u136, u137, u138, u139, u140, u141, u142, u143, u144, u145, u146, u147, u148, u149, u150, u151, u152, u153, u154, u155, u156, u157, u158, u159, u160, u161, u162, u163, u164, u165, u166, u167, u168, u169, u170, u171, u172, u173, u174, u175, u176, u177, u178, u179, u180, u181, u182, u183, u184, u185, u186, x187, x188], defers := [] } wr := by
  have hom := hC.om
  rw [hW] at hom
  obtain ⟨gw, cw, hvw, hcw⟩ := hom.shapeWlk
  clear hom
  subst hvw
  have ht := hG.top hW
  by_cases hlt : k < (A v).length
  · have hk : (A v)[k]? = some (A v)[k] := List.getElem?_eq_getElem hlt
    by_cases h0 : s.idx (A v)[k] = 0
    · exact round_visit _ _ _ _ _ _ _ _ _ _ _ _ _ _ _ _ _ _ _ _ _ _ _ _ _ _ _ _ _ _ _ _ _ _ _ _ _ _ _ _ _ _ _ _ _ _ _ _ _ _ _ _ _ _ _ _ _ _ _ _ _ _ _ _ _ _ _ _ _ _ _ _ _ _ _ _ _ _ _ _ _ _ _ _ _ _ _ _ _ _ _ _ _ _ _ _ _ _ _ _ _ _ _ _ _ _ _ _ _ _ _ _ _ _ _ _ _ _ _ _ _ _ _ _ _ _ _ _ _ _ _ _ _ _ _ _ _ _ _ _ _ _ _ _ _ _ _ _ _ _ _ _ _ _ _ _ _ _ _ _ _ _ _ _ _ _ _ _ _ _ _ _ _ _ _ _ _ _ _ _ _ _ _ _ _ _ _ _ _ _ _ _ _ _ _ _ _ _ _ c hc _ _ _ _ _ _ hJ hK hn hO hmu hG hW hC hk h0
    · by_cases hst : (A v)[k] ∈ s.stk
      · exact round_on _ _ _ _ _ _ _ _ _ _ _ _ _ _ _ _ _ _ _ _ _ _ _ _ _ _ _ _ _ _ _ _ _ _ _ _ _ _ _ _ _ _ _ _ _ _ _ _ _ _ _ _ _ _ _ _ _ _ _ _ _ _ _ _ _ _ _ _ _ _ _ _ _ _ _ _ _ _ _ _ _ _ _ _ _ _ _ _ _ _ _ _ _ _ _ _ _ _ _ _ _ _ _ _ _ _ _ _ _ _ _ _ _ _ _ _ _ _ _ _ _ _ _ _ _ _ _ _ _ _ _ _ _ _ _ _ _ _ _ _ _ _ _ _ _ _ _ _ _ _ _ _ _ _ _ _ _ _ _ _ _ _ _ _ _ _ _ _ _ _ _ _ _ _ _ _ _ _ _ _ _ _ _ _ _ _ _ _ _ _ _ _ _ _ _ _ _ _ _ c hc _ _ _ _ _ _ hJ hK hn hO hmu hG hW hC hk h0 hst
      · exact round_off _ _ _ _ _ _ _ _ _ _ _ _ _ _ _ _ _ _ _ _ _ _ _ _ _ _ _ _ _ _ _ _ _ _ _ _ _ _ _ _ _ _ _ _ _ _ _ _ _ _ _ _ _ _ _ _ _ _ _ _ _ _ _ _ _ _ _ _ _ _ _ _ _ _ _ _ _ _ _ _ _ _ _ _ _ _ _ _ _ _ _ _ _ _ _ _ _ _ _ _ _ _ _ _ _ _ _ _ _ _ _ _ _ _ _ _ _ _ _ _ _ _ _ _ _ _ _ _ _ _ _ _ _ _ _ _ _ _ _ _ _ _ _ _ _ _ _ _ _ _ _ _ _ _ _ _ _ _ _ _ _ _ _ _ _ _ _ _ _ _ _ _ _ _ _ _ _ _ _ _ _ _ _ _ _ _ _ _ _ _ _ _ _ _ _ _ _ _ _ c hc _ _ _ _ _ _ hJ hK hn hO hmu hG hW hC hk h0 hst
  · have hk : k = (A v).length := by omega
    obtain ⟨t, ht28, h28⟩ := put28
    obtain ⟨t2, ht29, h29⟩ := put29
    cases rest with
    | nil =>
      refine round_done_nil _ _ _ _ _ _ _ _ _ _ _ _ _ _ _ _ _ _ _ _ _ _ _ _ _ _ _ _ _ _ _ _ _ _ _ _ _ _ _ _ _ _ _ _ _ _ _ _ _ _ _ _ _ _ _ _ _ _ _ _ _ _ _ _ _ _ _ _ _ _ _ _ _ _ _ _ _ _ _ _ _ _ _ _ _ _ _ _ _ _ _ _ _ _ _ _ _ _ _ _ _ _ _ _ _ _ _ _ _ _ _ _ _ _ _ _ _ _ _ _ _ _ _ _ _ _ _ _ _ _ _ _ _ _ _ _ _ _ _ _ _ _ _ _ _ _ _ _ _ _ _ _ _ _ _ _ _ _ _ _ _ _ _ _ _ _ _ _ _ _ _ _ _ _ _ _ _ _ _ _ _ _ _ _ _ _ _ _ _ _ _ _ _ _ _ _ _ _ t c (h28 c hc) _ _ _ _ _ _ hJ hK hn hO hmu hG hW hcw hC hk rfl ?_
      intros
      rename_i hC'
      exact emit _ _ _ _ _ _ _ _ _ _ _ _ _ _ _ _ _ _ _ _ undef _ _ _ _ _ _ _ _ _ _ _ _ _ _ _ _ _ _ _ _ _ _ _ _ _ _ _ _ _ _ _ _ _ _ _ _ _ _ _ _ _ _ _ _ _ _ _ _ _ _ _ _ _ _ _ _ _ _ _ _ _ _ _ _ _ _ _ _ _ _ _ _ _ _ _ _ _ _ _ _ _ _ _ _ _ _ _ _ _ _ _ _ _ _ _ _ _ _ _ _ _ _ _ _ _ _ _ _ _ _ _ _ _ _ _ _ _ _ _ _ _ _ _ _ _ _ _ _ _ _ _ _ _ _ _ _ _ _ _ _ _ _ _ _ _ _ _ _ _ _ _ _ _ _ _ _ _ _ _ _ _ _ _ _ _ _ _ _ _ _ _ _ _ _ _ _ t2 t ht29 (h29 t ht28) _ _ _ _ _ _ hJ hK hn hmu hG hW hk (hG.last hW hk) hC'
    | cons p rest0 =>
      refine round_done_cons _ _ _ _ _ _ _ _ _ _ _ _ _ _ _ _ _ _ _ _ _ _ _ _ _ _ _ _ _ _ _ _ _ _ _ _ _ _ _ _ _ _ _ _ _ _ _ _ _ _ _ _ _ _ _ _ _ _ _ _ _ _ _ _ _ _ _ _ _ _ _ _ _ _ _ _ _ _ _ _ _ _ _ _ _ _ _ _ _ _ _ _ _ _ _ _ _ _ _ _ _ _ _ _ _ _ _ _ _ _ _ _ _ _ _ _ _ _ _ _ _ _ _ _ _ _ _ _ _ _ _ _ _ _ _ _ _ _ _ _ _ _ _ _ _ _ _ _ _ _ _ _ _ _ _ _ _ _ _ _ _ _ _ _ _ _ _ _ _ _ _ _ _ _ _ _ _ _ _ _ _ _ _ _ _ _ _ _ _ _ _ _ _ _ _ _ _ _ _ _ _ t c (h28 c hc) _ _ _ _ _ _ hJ hK hn hO hmu hG hW hcw hC hk rfl ?_
      intro hlow
      intros
      rename_i hC'
      exact emit _ _ _ _ _ _ _ _ _ _ _ _ _ _ _ _ _ _ _ _ undef _ _ _ _ _ _ _ _ _ _ _ _ _ _ _ _ _ _ _ _ _ _ _ _ _ _ _ _ _ _ _ _ _ _ _ _ _ _ _ _ _ _ _ _ _ _ _ _ _ _ _ _ _ _ _ _ _ _ _ _ _ _ _ _ _ _ _ _ _ _ _ _ _ _ _ _ _ _ _ _ _ _ _ _ _ _ _ _ _ _ _ _ _ _ _ _ _ _ _ _ _ _ _ _ _ _ _ _ _ _ _ _ _ _ _ _ _ _ _ _ _ _ _ _ _ _ _ _ _ _ _ _ _ _ _ _ _ _ _ _ _ _ _ _ _ _ _ _ _ _ _ _ _ _ _ _ _ _ _ _ _ _ _ _ _ _ _ _ _ _ _ _ _ _ _ _ t2 t ht29 (h29 t ht28) _ _ _ _ _ _ hJ hK hn hmu hG hW hk hlow hC'
end Go.Proofs.Qxb6603228a
