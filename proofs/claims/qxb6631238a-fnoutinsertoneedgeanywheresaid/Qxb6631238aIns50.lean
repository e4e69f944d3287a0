/-
  THE MAIN WALK of FnOutInsertOneEdgeAnywhere: the counting loop: seat b6631238a.
-/
import Derived.Test.Qxb6631238aIns66
namespace Go.Proofs.Qxb6631238a
open Go.RowKit Go.Maps

set_option maxRecDepth 100000 in
set_option maxHeartbeats 8000000 in
theorem tailI50 (s0 : ByteArray) (b1 : Bool) (a0 a1 a2 a3 : Option Addr) (n n1 n2 n3 p0 p1 p2 p3 : Nat) (nf nt nk nv : ByteArray) (c : Nat) (F T K V : Nat → ByteArray) (w : World) (bo ba : Nat) (fo fa : List UInt8 → Option Value) (W : World) {c11 c12 c13 c14 c15 c16 c17 c18 c19 c20 c21 c23 c25 c26 c27 c28 c29 c32 c33 c34 c35 c36 c37 c38 c39 c40 c41 c42 c43 c44 c45 c46 c47 c48 c49 c50 c51 c52 c53 c54 c55 c56 c57 c58 c59 c60 c61 c62 c63 c64 c65 c66 c67 c68 c69 c70 c71 c72 c73 c74 c75 c76 c77 c78 c79 c80 c81 c82 c83 c84 c85 c86 c87 c88 c89 c90 c91 c92 c93 c94 c95 c96 c97 c98 c99 c100 c101 c102 c103 c104 c105 c106 c107 c108 c109 c110 c111 c112 c113 c114 c115 c116 c117 c118 c119 c120 c121 c122 c123 c124 c125 c126 c127 c128 c129 c130 c131 c132 c133 c134 c135 c136 c137 c138 c139 c140 c141 c142 c143 c144 c145 c146 c147 c148 c149 c150 c151 c152 c153 c154 c155 c156 c157 c158 c159 c160 c161 c162 c163 c164 c165 c166 c167 c168 c169 c170 c171 c172 c173 c174 c175 c176 c177 c178 c179 c180 c181 c182 c183 c184 c185 c186 c187 c188 c189 c190 c191 c192 c193 c194 c195 c196 c197 c198 c199 c200 c201 c202 c203 c204 c205 c206 c207 c208 c209 c210 c211 c212 c213 c214 c215 c216 c217 c218 c219 c220 c221 c222 c223 c224 c225 c226 c227 c228 c229 c230 c231 c232 c233 c234 c235 c236 c237 c238 c239 c240 c241 c242 c243 c244 c245 c246 c247 c248 c249 c250 c251 c252 c253 c254 c255 c256 c257 c258 c259 c260 c261 c262 c263 c264 c265 c266 c267 c268 c269 c270 c271 c272 c273 c274 c275 c276 c277 c278 c279 c280 c281 c282 c283 c284 c285 c286 c287 c288 c289 c290 c291 c292 c293 c294 c295 c296 c297 c298 c299 c300 c301 c302 c303 c304 c305 c306 c307 c308 c309 c310 c311 c312 c313 c314 c315 c316 c317 c318 c319 c320 c321 c322 c323 c324 c325 c326 c327 c328 c329 c330 c331 c332 c333 c334 c335 c336 c337 c338 c339 c340 c341 c342 c343 c344 c345 c346 c347 c348 c349 c350 c351 c352 c353 c354 c355 c356 c357 c358 c359 c360 c361 c362 c363 c364 c365 c366 c367 c368 c369 c370 c371 c372 : Value} (K0 : Act → World → Prop) (hn : n ≤ 65536) (hcn : c ≤ n) (zf : nf.size ≤ maxLen) (zk : nk.size ≤ maxLen)
    (hF : Hid (Strs w a0 n F)) (hT : Hid (Strs w a1 n1 T)) (hK : Hid (Strs w a2 n2 K)) (hV : Hid (Strs w a3 n3 V)) (hb : Hid (Below w.heap.size w W))
    (hPb : Hid (Part W bo F (pickF T n1) (pickF K n2) (pickF V n3) n fo)) (hPa : Hid (Part W ba (ins F c nf) (ins (pickF T n1) c nt) (ins (pickF K n2) c nk) (ins (pickF V n3) c nv) (n + 1) fa))
    (hK0 : ∀ a w', Code.wp Try.prog (restAt 50 body4) (bodyPost Try.prog Try.f4 (Yes w)) a w' → K0 a w') :
    Code.wp Try.prog (regAt 50 body4) (Exit.then K0 (bodyPost Try.prog Try.f4 (Yes w))) ⟨#[.string s0, .bool b1, .slice a0 n p0, .slice a1 n1 p1, .slice a2 n2 p2, .slice a3 n3 p3, .string nf, .string nt, .string nk, .string nv, .int .i64 c, c11, c12, c13, c14, c15, c16, c17, c18, c19, c20, c21, .bool false, c23, .int .i64 n, c25, c26, c27, c28, c29, .map (some bo), .map (some ba), c32, c33, c34, c35, c36, c37, c38, c39, c40, c41, c42, c43, c44, c45, c46, c47, c48, c49, c50, c51, c52, c53, c54, c55, c56, c57, c58, c59, c60, c61, c62, c63, c64, c65, c66, c67, c68, c69, c70, c71, c72, c73, c74, c75, c76, c77, c78, c79, c80, c81, c82, c83, c84, c85, c86, c87, c88, c89, c90, c91, c92, c93, c94, c95, c96, c97, c98, c99, c100, c101, c102, c103, c104, c105, c106, c107, c108, c109, c110, c111, c112, c113, c114, c115, c116, c117, c118, c119, c120, c121, c122, c123, c124, c125, c126, c127, c128, c129, c130, c131, c132, c133, c134, c135, c136, c137, c138, c139, c140, c141, c142, c143, c144, c145, c146, c147, c148, c149, c150, c151, c152, c153, c154, c155, c156, c157, c158, c159, c160, c161, c162, c163, c164, c165, c166, c167, c168, c169, c170, c171, c172, c173, c174, c175, c176, c177, c178, c179, c180, c181, c182, c183, c184, c185, c186, c187, c188, c189, c190, c191, c192, c193, c194, c195, c196, c197, c198, c199, c200, c201, c202, c203, c204, c205, c206, c207, c208, c209, c210, c211, c212, c213, c214, c215, c216, c217, c218, c219, c220, c221, c222, c223, c224, c225, c226, c227, c228, c229, c230, c231, c232, c233, c234, c235, c236, c237, c238, c239, c240, c241, c242, c243, c244, c245, c246, c247, c248, c249, c250, c251, c252, c253, c254, c255, c256, c257, c258, c259, c260, c261, c262, c263, c264, c265, c266, c267, c268, c269, c270, c271, c272, c273, c274, c275, c276, c277, c278, c279, c280, c281, c282, c283, c284, c285, c286, c287, c288, c289, c290, c291, c292, c293, c294, c295, c296, c297, c298, c299, c300, c301, c302, c303, c304, c305, c306, c307, c308, c309, c310, c311, c312, c313, c314, c315, c316, c317, c318, c319, c320, c321, c322, c323, c324, c325, c326, c327, c328, c329, c330, c331, c332, c333, c334, c335, c336, c337, c338, c339, c340, c341, c342, c343, c344, c345, c346, c347, c348, c349, c350, c351, c352, c353, c354, c355, c356, c357, c358, c359, c360, c361, c362, c363, c364, c365, c366, c367, c368, c369, c370, c371, c372], []⟩ W := by
  conv => arg 2; whnf
  obtain ⟨R, hR⟩ : ∃ R, R = restAt 50 body4 := ⟨_, rfl⟩
  rw [← hR] at hK0
  conv at hR => rhs; whnf
  subst hR
  have hmm := @run_makeMap Try.prog
  go_upto_region 51 with fail
  clear hmm
  refine gen_world (fun X => Hid (Cnt X W.heap.size F 0) ∧ Hid (Below W.heap.size W X)) ⟨Cnt.made W F, (Below.refl _ _).alloc (Nat.le_refl _) _⟩ ?_
  rintro X0 ⟨U1, BX⟩
  obtain ⟨cm, hc1⟩ : ∃ x, x = W.heap.size := ⟨_, rfl⟩
  rw [← hc1] at U1 ⊢
  have d0 : W.heap.size ≤ cm := by omega
  clear hc1
  go_wp2
  go_loopw [33, 34] (fun q i wr => ∃ (k qv : Nat), k ≤ n ∧ i = .int .i64 k ∧ q = .int .i64 qv ∧ Hid (qv = cnt F (min k c) (kof nf)) ∧ qv ≤ k ∧ Hid (Cnt wr cm F k) ∧ Hid (Below W.heap.size W wr)) (fun _ i _ => n - (intOf i).toNat)
  case atStart => exact ⟨0, 0, Nat.zero_le _, rfl, rfl, (show 0 = cnt F (min 0 c) (kof nf) by rw [Nat.zero_min]; rfl), Nat.le_refl _, U1, BX⟩
  case round =>
    obtain ⟨k, qv, hk, rfl, rfl, hqv, hqk, D1, Bw⟩ := hrel
    have Bww : Hid (Below w.heap.size w wr) := (unhide hb).trans ((unhide Bw).mono (unhide hb).size)
    clear U1 BX
    by_cases hlt : k < n
    · obtain ⟨hsz, b, off, rfl, hc⟩ := unhide hF k hlt
      obtain ⟨x, hx⟩ : ∃ x, Hid (x = F k) := ⟨_, rfl⟩
      rw [← unhide hx] at hc hsz
      have hcw : wr.cell? ⟨b, off + k, none⟩ = some (.string x) := cell_below hc Bww
      have HC := hide hc
      clear hc
      obtain ⟨q1, hq1⟩ : ∃ q, Hid (q = cnt F k (kof x)) := ⟨_, rfl⟩
      have hq1b : q1 ≤ k := by have := cnt_le F k (kof x); rw [unhide hq1]; exact this
      have V1 : Hid ((cf F k (kof x)).getD (.int .i64 0) = .int .i64 (q1 : Nat)) := by rw [unhide hq1]; exact cf_get _ _ _
      go_upto_region 56 with (first
        | (refine at_dst 218 rfl ?_; refine wpList_look (.tmp 213) (.tmp 217) 35 rfl (by rfl) 3 (.int .i64 0) Try.underlying35 zero3 (unhide D1) rfl x rfl hsz (.int .i64 (q1 : Nat)) (unhide V1) ?_)
        | (at_mapUpdate; refine wpList_mput rfl (.tmp 213) (.tmp 217) (.tmp 219) 35 rfl 3 Try.underlying35 (unhide D1) (by unfold maxLen; omega) rfl x rfl hsz (.int .i64 ((q1 : Int) + 1)) rfl ?_; intro w2 hm2 hg2))
      have S1 : Hid (Cnt w2 cm F (k + 1)) := Cnt.step (by rw [unhide hx]) (unhide hq1) (by simp) hm2
      have B2 : Hid (Below W.heap.size W w2) := (unhide Bw).grown hg2 (unhide Bw).size (by intro j e; injection e with e; omega)
      clear hcw
      have hcw : w2.cell? ⟨b, off + k, none⟩ = some (.string x) := cell_below (unhide HC) ((unhide hb).trans ((unhide B2).mono (unhide hb).size))
      clear hm2 hg2 D1 Bw Bww
      by_cases hlc : k < c
      · by_cases hxe : x = nf
        · have hqe : (x.toList == nf.toList) = true := by rw [hxe]; exact beq_self_eq_true _
          have HX := hide hxe
          clear hxe
          go_wp2_with fail
          go_roundw
          case rel => exact ⟨k + 1, qv + 1, by omega, by go_num, by go_num, (show qv + 1 = cnt F (min (k + 1) c) (kof nf) by rw [Nat.min_eq_left (by omega), cnt_succ, ← unhide hx, if_pos (by rw [unhide HX]), unhide hqv, Nat.min_eq_left (by omega)]), by omega, S1, B2⟩
          case measure => simp [intOf]; omega
        · have hqe : (x.toList == nf.toList) = false := by rw [beq_eq_false_iff_ne]; exact fun e => hxe (toList_inj e)
          have HX := hide hxe
          clear hxe
          go_wp2_with fail
          go_roundw
          case rel => exact ⟨k + 1, qv, by omega, by go_num, rfl, (show qv = cnt F (min (k + 1) c) (kof nf) by rw [Nat.min_eq_left (by omega), cnt_succ, ← unhide hx, if_neg (fun e => unhide HX (kof_inj e)), unhide hqv, Nat.min_eq_left (by omega)]), by omega, S1, B2⟩
          case measure => simp [intOf]; omega
      · by_cases hxe : x = nf
        · have hqe : (x.toList == nf.toList) = true := by rw [hxe]; exact beq_self_eq_true _
          have HX := hide hxe
          clear hxe
          go_wp2_with fail
          go_roundw
          case rel => exact ⟨k + 1, qv, by omega, by go_num, rfl, (show qv = cnt F (min (k + 1) c) (kof nf) by rw [Nat.min_eq_right (by omega), unhide hqv, Nat.min_eq_right (by omega)]), by omega, S1, B2⟩
          case measure => simp [intOf]; omega
        · have hqe : (x.toList == nf.toList) = false := by rw [beq_eq_false_iff_ne]; exact fun e => hxe (toList_inj e)
          have HX := hide hxe
          clear hxe
          go_wp2_with fail
          go_roundw
          case rel => exact ⟨k + 1, qv, by omega, by go_num, rfl, (show qv = cnt F (min (k + 1) c) (kof nf) by rw [Nat.min_eq_right (by omega), unhide hqv, Nat.min_eq_right (by omega)]), by omega, S1, B2⟩
          case measure => simp [intOf]; omega
    · have e0 : k = n := by omega
      rw [e0] at D1
      have HQ : Hid (qv = cnt F c (kof nf)) := by rw [e0, Nat.min_eq_right hcn] at hqv; exact hqv
      have Q1 : Hid (Part wr bo F (pickF T n1) (pickF K n2) (pickF V n3) n fo) := (unhide hPb).below (unhide Bw)
      have Q2 : Hid (Part wr ba (ins F c nf) (ins (pickF T n1) c nt) (ins (pickF K n2) c nk) (ins (pickF V n3) c nv) (n + 1) fa) := (unhide hPa).below (unhide Bw)
      obtain ⟨cn, hcn'⟩ : ∃ q, Hid (q = cnt F n (kof nf)) := ⟨_, rfl⟩
      have hcnb : cn ≤ 65536 := by have := cnt_le F n (kof nf); rw [unhide hcn']; omega
      have Vn : Hid ((cf F n (kof nf)).getD (.int .i64 0) = .int .i64 (cn : Nat)) := by rw [unhide hcn']; exact cf_get _ _ _
      obtain ⟨d, hd⟩ : ∃ q, Hid (q = dsz F n) := ⟨_, rfl⟩
      obtain ⟨d2, hd2⟩ : ∃ q, Hid (q = dsz (ins F c nf) (n + 1)) := ⟨_, rfl⟩
      have hdb : d ≤ 65536 := by have := dsz_le F n; rw [unhide hd]; omega
      have M1 : Hid (OMap wr bo n fo d) := by rw [unhide hd]; exact (unhide Q1).map
      have M2 : Hid (OMap wr cm n (cf F n) d) := by rw [unhide hd]; exact unhide D1
      have M3 : Hid (OMap wr ba (n + 1) fa d2) := by rw [unhide hd2]; exact (unhide Q2).map
      obtain ⟨hpa, g2, cap2, mm2, hf2, r0, r1, r2, hA2⟩ := Part.at' (i := c) (p := qv) (c := cn + 1) (xf := nf) (xt := nt) (xk := nk) (xv := nv) (unhide Q2) (by omega) (ins_at _ _ _) (ins_at _ _ _) (ins_at _ _ _) (ins_at _ _ _) (by rw [cnt_ins_le _ (Nat.le_refl _)]; exact unhide HQ) (by rw [cnt_ins_gt _ hcn, if_pos rfl, unhide hcn'])
      have hf2 := hide hf2
      have A1 : Hid (Calls Try.prog 11 #[.agg #[.string nf, .string nt, .map mm2], .string nf, .string nt, .string nk, .string nv] wr fun e w' => e = .returned (.bool true) ∧ Below wr.heap.size wr w') := sameEdge_any nf nt nk nv mm2 wr zk hA2
      have HA2 := hide hA2
      clear hA2
      by_cases hz : cn = 0
      · have hd2e : d2 = d + 1 := by rw [unhide hd2, unhide hd, dsz_ins_gt _ hcn, ← unhide hcn', if_pos hz]
        have hd2a : d2 ≤ d + 1 := Nat.le_of_eq hd2e
        have hd2b : d + 1 ≤ d2 := Nat.le_of_eq hd2e.symm
        clear hd2e
        go_upto_region 61 with (refine at_dst 235 rfl ?_; refine wpList_look (.tmp 233) (.tmp 234) 35 rfl (by rfl) 3 (.int .i64 0) Try.underlying35 zero3 (unhide D1) rfl nf rfl zf (.int .i64 (cn : Nat)) (unhide Vn) ?_)
        go_upto_region 63 with (first
          | (refine at_dst 238 rfl ?_; refine wpList_mlen (.tmp 237) 33 rfl (by rfl) 26 Try.underlying33 (unhide M1) rfl ?_)
          | (refine at_dst 240 rfl ?_; refine wpList_mlen (.tmp 239) 35 rfl (by rfl) 3 Try.underlying35 (unhide M2) rfl ?_)
          | (refine at_dst 244 rfl ?_; refine wpList_mlen (.tmp 243) 33 rfl (by rfl) 26 Try.underlying33 (unhide M3) rfl ?_)
          | (refine at_dst 246 rfl ?_; refine wpList_mlen (.tmp 245) 35 rfl (by rfl) 3 Try.underlying35 (unhide M2) rfl ?_))
        go_upto_region 64 with (refine at_dst 254 rfl ?_; refine wpList_look_ok (.tmp 252) (.tmp 253) 33 rfl (by rfl) 26 (.slice none 0 0) Try.underlying33 zero26 (unhide M3) rfl nf rfl zf (.slice (some ⟨g2, 0, none⟩) (cn + 1) cap2) (unhide hf2) ?_)
        go_upto_region 66 with (first
          | (refine at_dst 264 rfl ?_; refine wpList_look (.tmp 262) (.tmp 263) 35 rfl (by rfl) 3 (.int .i64 0) Try.underlying35 zero3 (unhide D1) rfl nf rfl zf (.int .i64 (cn : Nat)) (unhide Vn) ?_)
          | (go_at_call 11; refine (unhide A1).mono ?_; rintro e w5 ⟨rfl, hB5⟩))
        refine tailI66 s0 b1 a0 a1 a2 a3 n n1 n2 n3 p0 p1 p2 p3 nf nt nk nv c F T K V w bo ba cm qv fo fa _ _ hn hcn hF hT hK hV ((unhide Bww).trans (hB5.mono (unhide Bww).size)) HQ ((unhide Q1).below hB5) ((unhide Q2).below hB5) ((unhide D1).below hB5 (unhide D1).lt) ?_
        assumption
      · have hd2e : d2 = d + 0 := by rw [unhide hd2, unhide hd, dsz_ins_gt _ hcn, ← unhide hcn', if_neg hz]
        have hd2a : d2 ≤ d + 0 := Nat.le_of_eq hd2e
        have hd2b : d + 0 ≤ d2 := Nat.le_of_eq hd2e.symm
        clear hd2e
        go_upto_region 61 with (refine at_dst 235 rfl ?_; refine wpList_look (.tmp 233) (.tmp 234) 35 rfl (by rfl) 3 (.int .i64 0) Try.underlying35 zero3 (unhide D1) rfl nf rfl zf (.int .i64 (cn : Nat)) (unhide Vn) ?_)
        go_upto_region 63 with (first
          | (refine at_dst 238 rfl ?_; refine wpList_mlen (.tmp 237) 33 rfl (by rfl) 26 Try.underlying33 (unhide M1) rfl ?_)
          | (refine at_dst 240 rfl ?_; refine wpList_mlen (.tmp 239) 35 rfl (by rfl) 3 Try.underlying35 (unhide M2) rfl ?_)
          | (refine at_dst 244 rfl ?_; refine wpList_mlen (.tmp 243) 33 rfl (by rfl) 26 Try.underlying33 (unhide M3) rfl ?_)
          | (refine at_dst 246 rfl ?_; refine wpList_mlen (.tmp 245) 35 rfl (by rfl) 3 Try.underlying35 (unhide M2) rfl ?_))
        go_upto_region 64 with (refine at_dst 254 rfl ?_; refine wpList_look_ok (.tmp 252) (.tmp 253) 33 rfl (by rfl) 26 (.slice none 0 0) Try.underlying33 zero26 (unhide M3) rfl nf rfl zf (.slice (some ⟨g2, 0, none⟩) (cn + 1) cap2) (unhide hf2) ?_)
        go_upto_region 66 with (first
          | (refine at_dst 264 rfl ?_; refine wpList_look (.tmp 262) (.tmp 263) 35 rfl (by rfl) 3 (.int .i64 0) Try.underlying35 zero3 (unhide D1) rfl nf rfl zf (.int .i64 (cn : Nat)) (unhide Vn) ?_)
          | (go_at_call 11; refine (unhide A1).mono ?_; rintro e w5 ⟨rfl, hB5⟩))
        refine tailI66 s0 b1 a0 a1 a2 a3 n n1 n2 n3 p0 p1 p2 p3 nf nt nk nv c F T K V w bo ba cm qv fo fa _ _ hn hcn hF hT hK hV ((unhide Bww).trans (hB5.mono (unhide Bww).size)) HQ ((unhide Q1).below hB5) ((unhide Q2).below hB5) ((unhide D1).below hB5 (unhide D1).lt) ?_
        assumption

end Go.Proofs.Qxb6631238a
