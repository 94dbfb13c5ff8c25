/-
  components: a round of the second loop that leaves a node.
-/
import Derived.Test.Qxb6603228aCompB
namespace Go.Proofs.Qxb6603228a
open Go.RowKit Tj

set_option maxHeartbeats 1000000 in
set_option maxRecDepth 1000000 in
theorem round_done_cons (A : Nat → List Nat) (n r N cap : Nat) (a : Option Addr) (w wr : World) (gk : Nat) (vf vc : Value) (s : St) (vs : Value) (gw cw v k : Nat) (p kp : Nat) (rest0 rest : List (Nat × Nat)) (fnd : List Nat)
    (u13 u14 u15 u16 u17 u41 u42 u43 u44 u45 u46 u47 u48 u49 u50 u51 u52 u53 u54 u55 u56 u57 u58 u59 u60 u61 u62 u63 u64 u65 u66 u67 u68 u69 u70 u71 u72 u73 u74 u75 u76 u77 u78 u79 u80 u81 u82 u83 u84 u85 u86 u87 u88 u89 u90 u91 u92 u93 u94 u95 u96 u97 u98 u99 u100 u101 u102 u103 u104 u105 u106 u107 u108 u109 u110 u111 u112 u113 u114 u115 u116 u117 u118 u119 u120 u121 u122 u123 u124 u125 u126 u127 u128 u129 u130 u131 u132 u133 u134 u135 u136 u137 u138 u139 u140 u141 u142 u143 u144 u145 u146 u147 u148 u149 u150 u151 u152 u153 u154 u155 u156 u157 u158 u159 u160 u161 u162 u163 u164 u165 u166 u167 u168 u169 u170 u171 u172 u173 u174 u175 u176 u177 u178 u179 u180 u181 u182 u183 u184 u185 u186 : Value) (x1 x2 x12 x18 x19 x20 x21 x22 x23 x24 x25 x26 x27 x28 x29 x30 x31 x32 x33 x34 x35 x36 x37 x38 x39 x40 x187 x188 : Value)
    (t c : Code) (hc : ((Try.f30.body.bind loopIn).bind loopIn).map (putAfter 28 t) = some c) (R : Ending → World → Prop) (J : Nat → Act → World → Prop) (K K1 K2 K3 : Act → World → Prop)
    (hJ : ∀ (k' : Nat) (a' : Act) (w' : World), (∃ u7 u8 u13 u14 u15 u16 u17 u41 u42 u43 u44 u45 u46 u47 u48 u49 u50 u51 u52 u53 u54 u55 u56 u57 u58 u59 u60 u61 u62 u63 u64 u65 u66 u67 u68 u69 u70 u71 u72 u73 u74 u75 u76 u77 u78 u79 u80 u81 u82 u83 u84 u85 u86 u87 u88 u89 u90 u91 u92 u93 u94 u95 u96 u97 u98 u99 u100 u101 u102 u103 u104 u105 u106 u107 u108 u109 u110 u111 u112 u113 u114 u115 u116 u117 u118 u119 u120 u121 u122 u123 u124 u125 u126 u127 u128 u129 u130 u131 u132 u133 u134 u135 u136 u137 u138 u139 u140 u141 u142 u143 u144 u145 u146 u147 u148 u149 u150 u151 u152 u153 u154 u155 u156 u157 u158 u159 u160 u161 u162 u163 u164 u165 u166 u167 u168 u169 u170 u171 u172 u173 u174 u175 u176 u177 u178 u179 u180 u181 u182 u183 u184 u185 u186 : Value, Rel2 A n r N w k' u7 u8 w' ∧ a' = { tmps := #[.slice a n cap, x1, x2, .pointer (some ⟨N + 1, 0, none⟩), .pointer (some ⟨N + 3, 0, none⟩), .pointer (some ⟨N + 5, 0, none⟩), .pointer (some ⟨N + 6, 0, none⟩), u7, u8, .pointer (some ⟨N + 7, 0, none⟩), .pointer (some ⟨N + 8, 0, none⟩), .func (.func 33) #[] #[.pointer (some ⟨N + 8, 0, none⟩), .pointer (some ⟨N + 1, 0, none⟩), .pointer (some ⟨N + 3, 0, none⟩), .pointer (some ⟨N + 6, 0, none⟩), .pointer (some ⟨N + 5, 0, none⟩), .pointer (some ⟨N + 7, 0, none⟩)], x12, u13, u14, u15, u16, u17, x18, x19, x20, x21, x22, x23, x24, x25, x26, x27, x28, x29, x30, x31, x32, x33, x34, x35, x36, x37, x38, x39, x40, u41, u42, u43, u44, u45, u46, u47, u48, u49, u50, u51, u52, u53, u54, u55, u56, u57, u58, u59, u60, u61, u62, u63, u64, u65, u66, u67, u68, u69, u70, u71, u72, u73, u74, u75, u76, u77, u78, u79, u80, u81, u82, u83, u84, u85, u86, u87, u88, u89, u90, u91, u92, u93, u94, u95, u96, u97, u98, u99, u100, u101, u102, u103, u104, u105, u106, u107, u108, u109, u110, u111, u112, u113, u114, u115, u116, u117, u118, u119, u120, u121, u122, u123, u124, u125, u126, u127, u128, u129, u130, u131, u132, u133, u134, u135, u136, u137, u138, u139, u140, u141, u142, u143, u144, u145, u146, u147, u148, u149, u150, u151, u152, u153, u154, u155, u156, u157, u158, u159, u160, u161, u162, u163, u164, u165, u166, u167, u168, u169, u170, u171, u172, u173, u174, u175, u176, u177, u178, u179, u180, u181, u182, u183, u184, u185, u186, x187, x188], defers := [] }) → J k' a' w')
    (hK : ∀ (a' : Act) (w' : World), Handed J gk a' w' → K a' w')
    (hn : n ≤ 4096) (hO : Outs A n N a w) (hmu : gk = mu A n s) (hG : TGood A n (r + 1) s) (hW : s.wlk = (v, k) :: rest) (hcw : rest.length + 1 ≤ cw) (hC : CM N w n s vs (.slice (some ⟨gw, 0, none⟩) (rest.length + 1) cw) vf vc fnd wr) (hk : k = (A v).length) (hr : rest = (p, kp) :: rest0)
    (hT : s.low v = s.idx v → ∀ (u13 u14 u16 u17 u41 u42 u43 u44 u45 u46 u47 u48 u49 u50 u51 u52 u53 u54 u55 u56 u57 u58 u59 u60 u61 u62 u63 u64 u65 u66 u67 u68 u69 u70 u71 u72 u73 u74 u75 u76 u77 u78 u79 u80 u81 u82 u83 u84 u85 u86 u87 u88 u89 u90 u91 u92 u93 u94 u95 u96 u97 u98 u99 u100 u101 u102 u103 u104 u105 u106 u107 u108 u109 u110 u111 u112 u113 u114 u115 u116 u117 u118 u119 u120 u121 u122 u123 u124 u125 u126 u127 u128 u129 u130 u131 u132 u133 u134 u135 u136 u137 u138 u139 u140 u141 u142 u143 u144 u145 u146 u147 u148 u149 u150 u151 u152 u153 u154 u155 u156 u157 u158 u159 u160 u161 u162 u163 u164 u165 u166 u167 u168 u169 u170 u171 u172 u173 u174 u175 u176 u177 u178 u179 u180 u181 u182 u183 u184 u185 u186 : Value) (wt : World), CM N w n (popped s v rest) vs (.slice (some ⟨gw, 0, none⟩) rest.length cw) vf vc fnd wt → Code.wp Try.prog t (Exit.inBlock 3 (Exit.then K (Exit.inBlock 2 (Exit.inBlock 1 (Exit.then K1 (Exit.then K2 (Exit.inBlock 0 (Exit.then K3 (bodyPost Try.prog Try.f30 R))))))))) { tmps := #[.slice a n cap, x1, x2, .pointer (some ⟨N + 1, 0, none⟩), .pointer (some ⟨N + 3, 0, none⟩), .pointer (some ⟨N + 5, 0, none⟩), .pointer (some ⟨N + 6, 0, none⟩), vf, vc, .pointer (some ⟨N + 7, 0, none⟩), .pointer (some ⟨N + 8, 0, none⟩), .func (.func 33) #[] #[.pointer (some ⟨N + 8, 0, none⟩), .pointer (some ⟨N + 1, 0, none⟩), .pointer (some ⟨N + 3, 0, none⟩), .pointer (some ⟨N + 6, 0, none⟩), .pointer (some ⟨N + 5, 0, none⟩), .pointer (some ⟨N + 7, 0, none⟩)], x12, u13, u14, .int .i64 (v : Int), u16, u17, x18, x19, x20, x21, x22, x23, x24, x25, x26, x27, x28, x29, x30, x31, x32, x33, x34, x35, x36, x37, x38, x39, x40, u41, u42, u43, u44, u45, u46, u47, u48, u49, u50, u51, u52, u53, u54, u55, u56, u57, u58, u59, u60, u61, u62, u63, u64, u65, u66, u67, u68, u69, u70, u71, u72, u73, u74, u75, u76, u77, u78, u79, u80, u81, u82, u83, u84, u85, u86, u87, u88, u89, u90, u91, u92, u93, u94, u95, u96, u97, u98, u99, u100, u101, u102, u103, u104, u105, u106, u107, u108, u109, u110, u111, u112, u113, u114, u115, u116, u117, u118, u119, u120, u121, u122, u123, u124, u125, u126, u127, u128, u129, u130, u131, u132, u133, u134, u135, u136, u137, u138, u139, u140, u141, u142, u143, u144, u145, u146, u147, u148, u149, u150, u151, u152, u153, u154, u155, u156, u157, u158, u159, u160, u161, u162, u163, u164, u165, u166, u167, u168, u169, u170, u171, u172, u173, u174, u175, u176, u177, u178, u179, u180, u181, u182, u183, u184, u185, u186, x187, x188], defers := [] } wt) :
    Code.wp Try.prog c (Exit.then K (Exit.inBlock 2 (Exit.inBlock 1 (Exit.then K1 (Exit.then K2 (Exit.inBlock 0 (Exit.then K3 (bodyPost Try.prog Try.f30 R)))))))) { tmps := #[.slice a n cap, x1, x2, .pointer (some ⟨N + 1, 0, none⟩), .pointer (some ⟨N + 3, 0, none⟩), .pointer (some ⟨N + 5, 0, none⟩), .pointer (some ⟨N + 6, 0, none⟩), vf, vc, .pointer (some ⟨N + 7, 0, none⟩), .pointer (some ⟨N + 8, 0, none⟩), .func (.func 33) #[] #[.pointer (some ⟨N + 8, 0, none⟩), .pointer (some ⟨N + 1, 0, none⟩), .pointer (some ⟨N + 3, 0, none⟩), .pointer (some ⟨N + 6, 0, none⟩), .pointer (some ⟨N + 5, 0, none⟩), .pointer (some ⟨N + 7, 0, none⟩)], x12, u13, u14, u15, u16, u17, x18, x19, x20, x21, x22, x23, x24, x25, x26, x27, x28, x29, x30, x31, x32, x33, x34, x35, x36, x37, x38, x39, x40, u41, u42, u43, u44, u45, u46, u47, u48, u49, u50, u51, u52, u53, u54, u55, u56, u57, u58, u59, u60, u61, u62, u63, u64, u65, u66, u67, u68, u69, u70, u71, u72, u73, u74, u75, u76, u77, u78, u79, u80, u81, u82, u83, u84, u85, u86, u87, u88, u89, u90, u91, u92, u93, u94, u95, u96, u97, u98, u99, u100, u101, u102, u103, u104, u105, u106, u107, u108, u109, u110, u111, u112, u113, u114, u115, u116, u117, u118, u119, u120, u121, u122, u123, u124, u125, u126, u127, u128, u129, u130, u131, u132, u133, u134, u135, u136, u137, u138, u139, u140, u141, u142, u143, u144, u145, u146, u147, u148, u149, u150, u151, u152, u153, u154, u155, u156, u157, u158, u159, u160, u161, u162, u163, u164, u165, u166, u167, u168, u169, u170, u171, u172, u173, u174, u175, u176, u177, u178, u179, u180, u181, u182, u183, u184, u185, u186, x187, x188], defers := [] } wr := by
  conv at hc => lhs; whnf
  obtain rfl := Option.some.inj hc
  clear hc
  simp only [putAfter, heads, Nat.reduceBEq, Bool.false_eq_true, ↓reduceIte]
  have ht := hG.top hW
  have hwl : rest.length + 1 ≤ n := by have := hG.inv.wlk_len; rw [hW] at this; simpa using this
  have hdl := hO.2.1 v ht.1
  obtain ⟨hvn, _⟩ := ht
  obtain ⟨b, off, hb1, hb2, hb3⟩ := hO.1 (by omega)
  obtain ⟨au, cu, hb4, hb5⟩ := hb3 v hvn
  have c46 := (hC.below.cell hb2).trans hb4
  have hom := hC.om
  rw [hW] at hom
  have htop := hom.topWlk
  have c7 := hC.fm.bwlk.cell
  have f7 := hC.fm.bwlk.frozen
  have ctop1 := htop.1
  have ctop2 := htop.2.1
  have hgw : N + 9 ≤ gw := (hom.wlk.lt gw rfl).1
  have x46 := fun w => at46 (cap := cap) hb1 hvn w
  have HC : Hid (Outs A n N a w ∧ gk = mu A n s ∧ TGood A n (r + 1) s ∧ s.wlk = (v, k) :: rest ∧ CM N w n s vs (.slice (some ⟨gw, 0, none⟩) (rest.length + 1) cw) vf vc fnd wr ∧ k = (A v).length) := ⟨hO, hmu, hG, hW, hC, hk⟩
  obtain ⟨L, hL⟩ : ∃ L, L = rest.length := ⟨_, rfl⟩
  rw [← hL] at hwl c7 ctop1 ctop2 hcw
  rw [← hk] at c46 hdl
  have ctp : wr.cell? ⟨gw, rest0.length * 2, none⟩ = some (.int .i64 (p : Int)) := by
    have hq := hom.popWlk
    rw [hr] at hq
    exact hq.topWlk.1
  have hpn : p < n ∧ v ≠ p := by
    have h1 := hG.inv.wsub (p, kp) (by rw [hW, hr]; exact List.mem_cons_of_mem _ List.mem_cons_self)
    refine ⟨hG.inv.idx_lt p (hG.inv.stk_idx p h1.1), fun e => hG.inv.top_not_rest hW ⟨kp, ?_⟩⟩
    rw [e, hr]; exact List.mem_cons_self
  obtain ⟨hpn, hvp⟩ := hpn
  have HL : Hid (L = rest.length) := hL
  have HT : Hid (s.low v = s.idx v → ∀ (u13 u14 u16 u17 u41 u42 u43 u44 u45 u46 u47 u48 u49 u50 u51 u52 u53 u54 u55 u56 u57 u58 u59 u60 u61 u62 u63 u64 u65 u66 u67 u68 u69 u70 u71 u72 u73 u74 u75 u76 u77 u78 u79 u80 u81 u82 u83 u84 u85 u86 u87 u88 u89 u90 u91 u92 u93 u94 u95 u96 u97 u98 u99 u100 u101 u102 u103 u104 u105 u106 u107 u108 u109 u110 u111 u112 u113 u114 u115 u116 u117 u118 u119 u120 u121 u122 u123 u124 u125 u126 u127 u128 u129 u130 u131 u132 u133 u134 u135 u136 u137 u138 u139 u140 u141 u142 u143 u144 u145 u146 u147 u148 u149 u150 u151 u152 u153 u154 u155 u156 u157 u158 u159 u160 u161 u162 u163 u164 u165 u166 u167 u168 u169 u170 u171 u172 u173 u174 u175 u176 u177 u178 u179 u180 u181 u182 u183 u184 u185 u186 : Value) (wt : World), CM N w n (popped s v rest) vs (.slice (some ⟨gw, 0, none⟩) rest.length cw) vf vc fnd wt → Code.wp Try.prog t (Exit.inBlock 3 (Exit.then K (Exit.inBlock 2 (Exit.inBlock 1 (Exit.then K1 (Exit.then K2 (Exit.inBlock 0 (Exit.then K3 (bodyPost Try.prog Try.f30 R))))))))) { tmps := #[.slice a n cap, x1, x2, .pointer (some ⟨N + 1, 0, none⟩), .pointer (some ⟨N + 3, 0, none⟩), .pointer (some ⟨N + 5, 0, none⟩), .pointer (some ⟨N + 6, 0, none⟩), vf, vc, .pointer (some ⟨N + 7, 0, none⟩), .pointer (some ⟨N + 8, 0, none⟩), .func (.func 33) #[] #[.pointer (some ⟨N + 8, 0, none⟩), .pointer (some ⟨N + 1, 0, none⟩), .pointer (some ⟨N + 3, 0, none⟩), .pointer (some ⟨N + 6, 0, none⟩), .pointer (some ⟨N + 5, 0, none⟩), .pointer (some ⟨N + 7, 0, none⟩)], x12, u13, u14, .int .i64 (v : Int), u16, u17, x18, x19, x20, x21, x22, x23, x24, x25, x26, x27, x28, x29, x30, x31, x32, x33, x34, x35, x36, x37, x38, x39, x40, u41, u42, u43, u44, u45, u46, u47, u48, u49, u50, u51, u52, u53, u54, u55, u56, u57, u58, u59, u60, u61, u62, u63, u64, u65, u66, u67, u68, u69, u70, u71, u72, u73, u74, u75, u76, u77, u78, u79, u80, u81, u82, u83, u84, u85, u86, u87, u88, u89, u90, u91, u92, u93, u94, u95, u96, u97, u98, u99, u100, u101, u102, u103, u104, u105, u106, u107, u108, u109, u110, u111, u112, u113, u114, u115, u116, u117, u118, u119, u120, u121, u122, u123, u124, u125, u126, u127, u128, u129, u130, u131, u132, u133, u134, u135, u136, u137, u138, u139, u140, u141, u142, u143, u144, u145, u146, u147, u148, u149, u150, u151, u152, u153, u154, u155, u156, u157, u158, u159, u160, u161, u162, u163, u164, u165, u166, u167, u168, u169, u170, u171, u172, u173, u174, u175, u176, u177, u178, u179, u180, u181, u182, u183, u184, u185, u186, x187, x188], defers := [] } wt) := hT
  clear hL hT
  clear hb1 hb2 hb3 hb4 hb5 hom htop hO hmu hG hW hC hk
  obtain ⟨L0, hL0⟩ : ∃ L0, L0 = rest0.length := ⟨_, rfl⟩
  have hL1 : L = L0 + 1 := by rw [HL.out, hr, hL0]; rfl
  have HR : Hid (rest = (p, kp) :: rest0) := hr
  clear hr
  subst hL1
  rw [← hL0] at ctp
  clear hL0
  go_wp2
  go_quiet (fail)
  obtain ⟨na, hna⟩ : ∃ x, x = nq := ⟨_, rfl⟩
  subst hna
  go_wp2_with fail
  have H1 := HC.out.2.2.2.2.1.left (m := na) HC.out.2.2.2.1
  rw [← HL.out] at H1
  generalize (wr.drewN na).setCell ⟨N + 7, 0, none⟩ (.slice (some ⟨gw, 0, none⟩) (L0 + 1) cw) = w1 at H1 ⊢
  have clow := H1.1.blow.cell
  have clv := H1.1.low.cell hvn
  have clp := H1.1.low.cell hpn
  have flp := H1.1.low.frozen p
  unfold enc at clv clp
  obtain ⟨lv, hlv⟩ : ∃ lv, lv = s.low v := ⟨_, rfl⟩
  obtain ⟨lp, hlp⟩ : ∃ lp, lp = s.low p := ⟨_, rfl⟩
  rw [← hlv] at clv
  rw [← hlp] at clp
  have HLV : Hid (lv = s.low v ∧ lp = s.low p) := ⟨hlv, hlp⟩
  have HF : Hid (FM N n s.idx s.low (fun i => decide (i ∈ s.stk)) vs (.slice (some ⟨gw, 0, none⟩) (L0 + 1) cw) s.cnt w1 ∧ OM N vs (.slice (some ⟨gw, 0, none⟩) (L0 + 1) cw) vf vc s.stk rest fnd s.cmp w1 ∧ Below N w w1) := H1
  clear hlv hlp H1 c46 c7 x46 f7 ctop1 ctop2 ctp
  go_region
  have H2 := lowed (x := p) (c := lp) (d := lv) HF.out
  clear HF clow clv clp flp
  generalize (w1.setCell ⟨N + 2, p, none⟩ (.int .i64 (min (lp : Int) (lv : Int)))).drew = w2 at H2 ⊢
  have H3 : Hid (CM N w n (popped s v rest) vs (.slice (some ⟨gw, 0, none⟩) (L0 + 1) cw) vf vc fnd w2) := by
    refine ⟨H2.1.congr (fun _ => rfl) (fun i => ?_) (fun _ => rfl), H2.2.1, H2.2.2⟩
    rw [HLV.out.1, HLV.out.2, HR.out]
    rfl
  have clow := H3.out.fm.blow.cell
  have clv := H2.1.low.cell hvn
  have cidx := H2.1.bidx.cell
  have ci := H2.1.idx.cell hvn
  rw [upd_other _ _ hvp, ← HLV.out.1] at clv
  unfold enc at ci clv
  obtain ⟨iv, hiv⟩ : ∃ iv, iv = s.idx v := ⟨_, rfl⟩
  rw [← hiv] at ci
  have HIV : Hid (iv = s.idx v) := hiv
  clear hiv H2
  go_wp2_with fail
  by_cases hne : lv = iv
  · subst hne
    go_quiet (fail)
    go_wp2_with fail
    refine HT.out ?_ _ _ _ _ _ _ _ _ _ _ _ _ _ _ _ _ _ _ _ _ _ _ _ _ _ _ _ _ _ _ _ _ _ _ _ _ _ _ _ _ _ _ _ _ _ _ _ _ _ _ _ _ _ _ _ _ _ _ _ _ _ _ _ _ _ _ _ _ _ _ _ _ _ _ _ _ _ _ _ _ _ _ _ _ _ _ _ _ _ _ _ _ _ _ _ _ _ _ _ _ _ _ _ _ _ _ _ _ _ _ _ _ _ _ _ _ _ _ _ _ _ _ _ _ _ _ _ _ _ _ _ _ _ _ _ _ _ _ _ _ _ _ _ _ _ _ _ _ _ _ _ ?_
    · rw [← HLV.out.1, HIV.out]
    · rw [← HL.out]
      exact H3.out.drewN _
  · have hne' : ((lv : Int) != iv) = true := by rw [bne_iff_ne]; omega
    go_quiet (fail)
    go_wp2_with fail
    go_roundg (mu A n (popped s v rest))
    case measure =>
      obtain ⟨hO, hmu, hG, hW, hC, hk⟩ := HC.out
      rw [hmu]
      exact mu_pop hW rfl rfl
    case rel =>
      obtain ⟨hO, hmu, hG, hW, hC, hk⟩ := HC.out
      exact ⟨_, _, _, _, rfl, hG.popped hW hk (by rw [← HLV.out.1, ← HIV.out]; exact hne), H3.out.drewN _⟩
end Go.Proofs.Qxb6603228a
