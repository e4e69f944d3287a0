/-
  THE MAIN WALK of FnOutInsertOneEdgeAnywhere: the last loop: seat b6631238a.
-/
import Derived.Test.Qxb6631238aIns4
namespace Go.Proofs.Qxb6631238a
open Go.RowKit Go.Maps

set_option maxRecDepth 100000 in
set_option maxHeartbeats 8000000 in
theorem tailI66 (s0 : ByteArray) (b1 : Bool) (a0 a1 a2 a3 : Option Addr) (n n1 n2 n3 p0 p1 p2 p3 : Nat) (nf nt nk nv : ByteArray) (c : Nat) (F T K V : Nat → ByteArray) (w : World) (bo ba cm qq : Nat) (fo fa : List UInt8 → Option Value) (W : World) {c11 c12 c13 c14 c15 c16 c17 c18 c19 c20 c21 c23 c25 c26 c27 c28 c29 c34 c35 c36 c37 c38 c39 c40 c41 c42 c43 c44 c45 c46 c47 c48 c49 c50 c51 c52 c53 c54 c55 c56 c57 c58 c59 c60 c61 c62 c63 c64 c65 c66 c67 c68 c69 c70 c71 c72 c73 c74 c75 c76 c77 c78 c79 c80 c81 c82 c83 c84 c85 c86 c87 c88 c89 c90 c91 c92 c93 c94 c95 c96 c97 c98 c99 c100 c101 c102 c103 c104 c105 c106 c107 c108 c109 c110 c111 c112 c113 c114 c115 c116 c117 c118 c119 c120 c121 c122 c123 c124 c125 c126 c127 c128 c129 c130 c131 c132 c133 c134 c135 c136 c137 c138 c139 c140 c141 c142 c143 c144 c145 c146 c147 c148 c149 c150 c151 c152 c153 c154 c155 c156 c157 c158 c159 c160 c161 c162 c163 c164 c165 c166 c167 c168 c169 c170 c171 c172 c173 c174 c175 c176 c177 c178 c179 c180 c181 c182 c183 c184 c185 c186 c187 c188 c189 c190 c191 c192 c193 c194 c195 c196 c197 c198 c199 c200 c201 c202 c203 c204 c205 c206 c207 c208 c209 c210 c211 c212 c213 c214 c215 c216 c217 c218 c219 c220 c221 c222 c223 c224 c225 c226 c227 c228 c229 c230 c231 c232 c233 c234 c235 c236 c237 c238 c239 c240 c241 c242 c243 c244 c245 c246 c247 c248 c249 c250 c251 c252 c253 c254 c255 c256 c257 c258 c259 c260 c261 c262 c263 c264 c265 c266 c267 c268 c269 c270 c271 c272 c273 c274 c275 c276 c277 c278 c279 c280 c281 c282 c283 c284 c285 c286 c287 c288 c289 c290 c291 c292 c293 c294 c295 c296 c297 c298 c299 c300 c301 c302 c303 c304 c305 c306 c307 c308 c309 c310 c311 c312 c313 c314 c315 c316 c317 c318 c319 c320 c321 c322 c323 c324 c325 c326 c327 c328 c329 c330 c331 c332 c333 c334 c335 c336 c337 c338 c339 c340 c341 c342 c343 c344 c345 c346 c347 c348 c349 c350 c351 c352 c353 c354 c355 c356 c357 c358 c359 c360 c361 c362 c363 c364 c365 c366 c367 c368 c369 c370 c371 c372 : Value} (K0 : Act → World → Prop) (hn : n ≤ 65536) (hcn : c ≤ n)
    (hF : Hid (Strs w a0 n F)) (hT : Hid (Strs w a1 n1 T)) (hK : Hid (Strs w a2 n2 K)) (hV : Hid (Strs w a3 n3 V)) (hb : Hid (Below w.heap.size w W)) (hqq : Hid (qq = cnt F c (kof nf)))
    (hPb : Hid (Part W bo F (pickF T n1) (pickF K n2) (pickF V n3) n fo)) (hPa : Hid (Part W ba (ins F c nf) (ins (pickF T n1) c nt) (ins (pickF K n2) c nk) (ins (pickF V n3) c nv) (n + 1) fa)) (C1 : Hid (Cnt W cm F n))
    (hK0 : ∀ a w', Code.wp Try.prog (restAt 66 body4) (bodyPost Try.prog Try.f4 (Yes w)) a w' → K0 a w') :
    Code.wp Try.prog (regAt 66 body4) (Exit.then K0 (bodyPost Try.prog Try.f4 (Yes w))) ⟨#[.string s0, .bool b1, .slice a0 n p0, .slice a1 n1 p1, .slice a2 n2 p2, .slice a3 n3 p3, .string nf, .string nt, .string nk, .string nv, .int .i64 c, c11, c12, c13, c14, c15, c16, c17, c18, c19, c20, c21, .bool false, c23, .int .i64 n, c25, c26, c27, c28, c29, .map (some bo), .map (some ba), .map (some cm), .int .i64 qq, c34, c35, c36, c37, c38, c39, c40, c41, c42, c43, c44, c45, c46, c47, c48, c49, c50, c51, c52, c53, c54, c55, c56, c57, c58, c59, c60, c61, c62, c63, c64, c65, c66, c67, c68, c69, c70, c71, c72, c73, c74, c75, c76, c77, c78, c79, c80, c81, c82, c83, c84, c85, c86, c87, c88, c89, c90, c91, c92, c93, c94, c95, c96, c97, c98, c99, c100, c101, c102, c103, c104, c105, c106, c107, c108, c109, c110, c111, c112, c113, c114, c115, c116, c117, c118, c119, c120, c121, c122, c123, c124, c125, c126, c127, c128, c129, c130, c131, c132, c133, c134, c135, c136, c137, c138, c139, c140, c141, c142, c143, c144, c145, c146, c147, c148, c149, c150, c151, c152, c153, c154, c155, c156, c157, c158, c159, c160, c161, c162, c163, c164, c165, c166, c167, c168, c169, c170, c171, c172, c173, c174, c175, c176, c177, c178, c179, c180, c181, c182, c183, c184, c185, c186, c187, c188, c189, c190, c191, c192, c193, c194, c195, c196, c197, c198, c199, c200, c201, c202, c203, c204, c205, c206, c207, c208, c209, c210, c211, c212, c213, c214, c215, c216, c217, c218, c219, c220, c221, c222, c223, c224, c225, c226, c227, c228, c229, c230, c231, c232, c233, c234, c235, c236, c237, c238, c239, c240, c241, c242, c243, c244, c245, c246, c247, c248, c249, c250, c251, c252, c253, c254, c255, c256, c257, c258, c259, c260, c261, c262, c263, c264, c265, c266, c267, c268, c269, c270, c271, c272, c273, c274, c275, c276, c277, c278, c279, c280, c281, c282, c283, c284, c285, c286, c287, c288, c289, c290, c291, c292, c293, c294, c295, c296, c297, c298, c299, c300, c301, c302, c303, c304, c305, c306, c307, c308, c309, c310, c311, c312, c313, c314, c315, c316, c317, c318, c319, c320, c321, c322, c323, c324, c325, c326, c327, c328, c329, c330, c331, c332, c333, c334, c335, c336, c337, c338, c339, c340, c341, c342, c343, c344, c345, c346, c347, c348, c349, c350, c351, c352, c353, c354, c355, c356, c357, c358, c359, c360, c361, c362, c363, c364, c365, c366, c367, c368, c369, c370, c371, c372], []⟩ W := by
  conv => arg 2; whnf
  obtain ⟨R, hR⟩ : ∃ R, R = restAt 66 body4 := ⟨_, rfl⟩
  rw [← hR] at hK0
  conv at hR => rhs; whnf
  subst hR
  have hmm := @run_makeMap Try.prog
  go_upto_region 67 with fail
  clear hmm
  refine gen_world (fun X => Hid (Cnt X W.heap.size F 0) ∧ Hid (Below W.heap.size W X)) ⟨Cnt.made W F, (Below.refl _ _).alloc (Nat.le_refl _) _⟩ ?_
  rintro X0 ⟨U1, BX⟩
  obtain ⟨u1, hc1⟩ : ∃ x, x = W.heap.size := ⟨_, rfl⟩
  rw [← hc1] at U1 ⊢
  have d0 : W.heap.size ≤ u1 := by omega
  clear hc1
  have Cw1 : Hid (∀ X, Below W.heap.size W X → Cnt X cm F n) := fun X h => (unhide C1).below h (unhide C1).lt
  have Mb : Hid (∀ X, Below W.heap.size W X → OMap X bo n fo (dsz F n)) := fun X h => ((unhide hPb).below h).map
  have Ma : Hid (∀ X, Below W.heap.size W X → OMap X ba (n + 1) fa (dsz (ins F c nf) (n + 1))) := fun X h => ((unhide hPa).below h).map
  clear C1
  go_wp2
  go_loopw [39] (fun i wr => ∃ (k : Nat), k ≤ n ∧ i = .int .i64 k ∧ Hid (Cnt wr u1 F k) ∧ Hid (Below W.heap.size W wr)) (fun i _ => n - (intOf i).toNat)
  case atStart => exact ⟨0, Nat.zero_le _, rfl, U1, BX⟩
  case round =>
    obtain ⟨k, hk, rfl, D1, Bw⟩ := hrel
    have Bww : Hid (Below w.heap.size w wr) := (unhide hb).trans ((unhide Bw).mono (unhide hb).size)
    clear U1 BX
    by_cases hlt : k < n
    · obtain ⟨y, hy⟩ : ∃ y, Hid (y = pickF T n1 k) := ⟨_, rfl⟩
      obtain ⟨ak, hak⟩ : ∃ y, Hid (y = pickF K n2 k) := ⟨_, rfl⟩
      obtain ⟨av, hav⟩ : ∃ y, Hid (y = pickF V n3 k) := ⟨_, rfl⟩
      obtain ⟨x, hx⟩ : ∃ x, Hid (x = F k) := ⟨_, rfl⟩
      have hakz : ak.size ≤ maxLen := by rw [unhide hak]; exact pickF_size (unhide hK) k
      have E1 : Hid (Calls Try.prog 10 #[.slice a1 n1 p1, .int .i64 k] wr fun e w' => e = .returned (.string y) ∧ w' = wr) := by rw [unhide hy]; exact pick_any a1 n1 p1 k T wr ((unhide hT).below Bww)
      have E2 : Hid (Calls Try.prog 10 #[.slice a2 n2 p2, .int .i64 k] wr fun e w' => e = .returned (.string ak) ∧ w' = wr) := by rw [unhide hak]; exact pick_any a2 n2 p2 k K wr ((unhide hK).below Bww)
      have E3 : Hid (Calls Try.prog 10 #[.slice a3 n3 p3, .int .i64 k] wr fun e w' => e = .returned (.string av) ∧ w' = wr) := by rw [unhide hav]; exact pick_any a3 n3 p3 k V wr ((unhide hV).below Bww)
      obtain ⟨hsz, b, off, rfl, hc⟩ := unhide hF k hlt
      rw [← unhide hx] at hc hsz
      have hcw : wr.cell? ⟨b, off + k, none⟩ = some (.string x) := cell_below hc Bww
      clear hc
      obtain ⟨q1, hq1⟩ : ∃ q, Hid (q = cnt F k (kof x)) := ⟨_, rfl⟩
      obtain ⟨cc, hcc⟩ : ∃ q, Hid (q = cnt F n (kof x)) := ⟨_, rfl⟩
      have hccb : cc ≤ 65536 := by have := cnt_le F n (kof x); rw [unhide hcc]; omega
      have V1 : Hid ((cf F k (kof x)).getD (.int .i64 0) = .int .i64 (q1 : Nat)) := by rw [unhide hq1]; exact cf_get _ _ _
      have Vc : Hid ((cf F n (kof x)).getD (.int .i64 0) = .int .i64 (cc : Nat)) := by rw [unhide hcc]; exact cf_get _ _ _
      obtain ⟨hpc, g1, cap1, mm1, hf1, e0, e1, e2, hA1⟩ := Part.at' (unhide hPb) hlt (unhide hx).symm (unhide hy).symm (unhide hak).symm (unhide hav).symm (unhide hq1) (unhide hcc)
      have hf1 := hide hf1
      have e0 := hide e0
      have e1 := hide e1
      have e2 := hide e2
      have N1 : Hid (Cnt wr cm F n) := unhide Cw1 wr Bw
      have N4 : Hid (OMap wr bo n fo (dsz F n)) := unhide Mb wr Bw
      have N5 : Hid (OMap wr ba (n + 1) fa (dsz (ins F c nf) (n + 1))) := unhide Ma wr Bw
      go_upto_region 78 with (first
        | (go_at_call_of 10 (Value.slice a1 n1 p1); refine (unhide E1).mono ?_; rintro e w' ⟨rfl, rfl⟩)
        | (go_at_call_of 10 (Value.slice a2 n2 p2); refine (unhide E2).mono ?_; rintro e w' ⟨rfl, rfl⟩)
        | (go_at_call_of 10 (Value.slice a3 n3 p3); refine (unhide E3).mono ?_; rintro e w' ⟨rfl, rfl⟩)
        | (refine at_dst 302 rfl ?_; refine wpList_look_ok (.tmp 300) (.tmp 301) 33 rfl (by rfl) 26 (.slice none 0 0) Try.underlying33 zero26 (unhide N4) rfl x rfl hsz (.slice (some ⟨g1, 0, none⟩) cc cap1) (unhide hf1) ?_)
        | (refine at_dst 312 rfl ?_; refine wpList_look (.tmp 310) (.tmp 311) 35 rfl (by rfl) 3 (.int .i64 0) Try.underlying35 zero3 (unhide N1) rfl x rfl hsz (.int .i64 (cc : Nat)) (unhide Vc) ?_))
      by_cases hlc : k < c
      · by_cases hxe : x = nf
        · have hqe : (x.toList == nf.toList) = true := by rw [hxe]; exact beq_self_eq_true _
          have hke : kof nf = kof x := by rw [hxe]
          obtain ⟨ca, hca⟩ : ∃ q, Hid (q = cnt (ins F c nf) (n + 1) (kof x)) := ⟨_, rfl⟩
          have hcae : ca = cc + 1 := by rw [unhide hca, unhide hcc, cnt_ins_gt _ hcn, if_pos hke]
          have hca1 : ca ≤ cc + 1 := Nat.le_of_eq hcae
          have hca2 : cc + 1 ≤ ca := Nat.le_of_eq hcae.symm
          clear hcae
          have hqq' : q1 < qq := by rw [unhide hqq, unhide hq1, hke]; exact cnt_lt hlc (by rw [unhide hx])
          obtain ⟨hpa, g2, cap2, mm2, hf2, r0, r1, r2, hA2⟩ := Part.at' (i := k) (p := q1) (xf := x) (xt := y) (xk := ak) (xv := av) (unhide hPa) (by omega) (by rw [ins_lt hlc]; exact (unhide hx).symm) (by rw [ins_lt hlc]; exact (unhide hy).symm) (by rw [ins_lt hlc]; exact (unhide hak).symm) (by rw [ins_lt hlc]; exact (unhide hav).symm) (by rw [cnt_ins_le _ (by omega)]; exact unhide hq1) (unhide hca)
          have hf2 := hide hf2
          have r0 := hide r0
          have r1 := hide r1
          have r2 := hide r2
          have HX := hide hxe
          have HK := hide hke
          clear hxe hke
          go_upto_region 85 with (first
            | (refine at_dst 321 rfl ?_; refine wpList_look_ok (.tmp 319) (.tmp 320) 33 rfl (by rfl) 26 (.slice none 0 0) Try.underlying33 zero26 (unhide N5) rfl x rfl hsz (.slice (some ⟨g2, 0, none⟩) ca cap2) (unhide hf2) ?_)
            | (refine at_dst 331 rfl ?_; refine wpList_look (.tmp 329) (.tmp 330) 35 rfl (by rfl) 3 (.int .i64 0) Try.underlying35 zero3 (unhide N1) rfl x rfl hsz (.int .i64 (cc : Nat)) (unhide Vc) ?_)
            | (refine at_dst 338 rfl ?_; refine wpList_look (.tmp 336) (.tmp 337) 35 rfl (by rfl) 3 (.int .i64 0) Try.underlying35 zero3 (unhide D1) rfl x rfl hsz (.int .i64 (q1 : Nat)) (unhide V1) ?_)
            | (at_mapUpdate; refine wpList_mput rfl (.tmp 339) (.tmp 340) (.tmp 342) 35 rfl 3 Try.underlying35 (unhide D1) (by unfold maxLen; omega) rfl x rfl hsz (.int .i64 ((q1 : Int) + 1)) rfl ?_; intro w2 hm2 hg2))
          have S1 : Hid (Cnt w2 u1 F (k + 1)) := Cnt.step (by rw [unhide hx]) (unhide hq1) (by simp) hm2
          have B2 : Hid (Below W.heap.size W w2) := (unhide Bw).grown hg2 (unhide Bw).size (by intro j e; injection e with e; omega)
          have f0 : w2.cell? ⟨g1, q1 * 3, none⟩ = some (.string x) := cell_below (unhide e0) (unhide B2)
          have f1 : w2.cell? ⟨g1, q1 * 3 + 1, none⟩ = some (.string y) := cell_below (unhide e1) (unhide B2)
          have f2 : w2.cell? ⟨g1, q1 * 3 + 2, none⟩ = some (.map mm1) := cell_below (unhide e2) (unhide B2)
          have A1 : Hid (Calls Try.prog 11 #[.agg #[.string x, .string y, .map mm1], .string x, .string y, .string ak, .string av] w2 fun e w' => e = .returned (.bool true) ∧ Below w2.heap.size w2 w') := sameEdge_any x y ak av mm1 w2 hakz (hA1.below (unhide B2))
          clear hm2 hg2 hcw D1 Bw Bww N1 N4 N5 e0 e1 e2 hA1 E1 E2 E3 hf1 hf2
          go_upto_region 87 with (go_at_call 11; refine (unhide A1).mono ?_; rintro e w3 ⟨rfl, hB3⟩)
          have B3 : Hid (Below W.heap.size W w3) := (unhide B2).trans (hB3.mono (unhide B2).size)
          have S1 : Hid (Cnt w3 u1 F (k + 1)) := (unhide S1).below hB3 (unhide S1).lt
          clear f0 f1 f2 A1 hB3 B2
          have f0 : w3.cell? ⟨g2, (q1) * 3, none⟩ = some (.string x) := cell_below (unhide r0) (unhide B3)
          have f1 : w3.cell? ⟨g2, (q1) * 3 + 1, none⟩ = some (.string y) := cell_below (unhide r1) (unhide B3)
          have f2 : w3.cell? ⟨g2, (q1) * 3 + 2, none⟩ = some (.map mm2) := cell_below (unhide r2) (unhide B3)
          have A2 : Hid (Calls Try.prog 11 #[.agg #[.string x, .string y, .map mm2], .string x, .string y, .string ak, .string av] w3 fun e w' => e = .returned (.bool true) ∧ Below w3.heap.size w3 w') := sameEdge_any x y ak av mm2 w3 hakz (hA2.below (unhide B3))
          clear r0 r1 r2 hA2
          go_wp2_with (go_at_call 11; refine (unhide A2).mono ?_; rintro e w5 ⟨rfl, hB5⟩)
          have B5 : Hid (Below W.heap.size W w5) := (unhide B3).trans (hB5.mono (unhide B3).size)
          have R1 : Hid (Cnt w5 u1 F (k + 1)) := (unhide S1).below hB5 (unhide S1).lt
          clear f0 f1 f2 A2 hB5
          go_roundw
          case rel => exact ⟨k + 1, by omega, by go_num, R1, B5⟩
          case measure => simp [intOf]; omega
        · have hqe : (x.toList == nf.toList) = false := by rw [beq_eq_false_iff_ne]; exact fun e => hxe (toList_inj e)
          have hke : ¬ kof nf = kof x := fun e => hxe (kof_inj e).symm
          obtain ⟨ca, hca⟩ : ∃ q, Hid (q = cnt (ins F c nf) (n + 1) (kof x)) := ⟨_, rfl⟩
          have hcae : ca = cc + 0 := by rw [unhide hca, unhide hcc, cnt_ins_gt _ hcn, if_neg hke]
          have hca1 : ca ≤ cc + 0 := Nat.le_of_eq hcae
          have hca2 : cc + 0 ≤ ca := Nat.le_of_eq hcae.symm
          clear hcae
          obtain ⟨hpa, g2, cap2, mm2, hf2, r0, r1, r2, hA2⟩ := Part.at' (i := k) (p := q1) (xf := x) (xt := y) (xk := ak) (xv := av) (unhide hPa) (by omega) (by rw [ins_lt hlc]; exact (unhide hx).symm) (by rw [ins_lt hlc]; exact (unhide hy).symm) (by rw [ins_lt hlc]; exact (unhide hak).symm) (by rw [ins_lt hlc]; exact (unhide hav).symm) (by rw [cnt_ins_le _ (by omega)]; exact unhide hq1) (unhide hca)
          have hf2 := hide hf2
          have r0 := hide r0
          have r1 := hide r1
          have r2 := hide r2
          have HX := hide hxe
          have HK := hide hke
          clear hxe hke
          go_upto_region 85 with (first
            | (refine at_dst 321 rfl ?_; refine wpList_look_ok (.tmp 319) (.tmp 320) 33 rfl (by rfl) 26 (.slice none 0 0) Try.underlying33 zero26 (unhide N5) rfl x rfl hsz (.slice (some ⟨g2, 0, none⟩) ca cap2) (unhide hf2) ?_)
            | (refine at_dst 331 rfl ?_; refine wpList_look (.tmp 329) (.tmp 330) 35 rfl (by rfl) 3 (.int .i64 0) Try.underlying35 zero3 (unhide N1) rfl x rfl hsz (.int .i64 (cc : Nat)) (unhide Vc) ?_)
            | (refine at_dst 338 rfl ?_; refine wpList_look (.tmp 336) (.tmp 337) 35 rfl (by rfl) 3 (.int .i64 0) Try.underlying35 zero3 (unhide D1) rfl x rfl hsz (.int .i64 (q1 : Nat)) (unhide V1) ?_)
            | (at_mapUpdate; refine wpList_mput rfl (.tmp 339) (.tmp 340) (.tmp 342) 35 rfl 3 Try.underlying35 (unhide D1) (by unfold maxLen; omega) rfl x rfl hsz (.int .i64 ((q1 : Int) + 1)) rfl ?_; intro w2 hm2 hg2))
          have S1 : Hid (Cnt w2 u1 F (k + 1)) := Cnt.step (by rw [unhide hx]) (unhide hq1) (by simp) hm2
          have B2 : Hid (Below W.heap.size W w2) := (unhide Bw).grown hg2 (unhide Bw).size (by intro j e; injection e with e; omega)
          have f0 : w2.cell? ⟨g1, q1 * 3, none⟩ = some (.string x) := cell_below (unhide e0) (unhide B2)
          have f1 : w2.cell? ⟨g1, q1 * 3 + 1, none⟩ = some (.string y) := cell_below (unhide e1) (unhide B2)
          have f2 : w2.cell? ⟨g1, q1 * 3 + 2, none⟩ = some (.map mm1) := cell_below (unhide e2) (unhide B2)
          have A1 : Hid (Calls Try.prog 11 #[.agg #[.string x, .string y, .map mm1], .string x, .string y, .string ak, .string av] w2 fun e w' => e = .returned (.bool true) ∧ Below w2.heap.size w2 w') := sameEdge_any x y ak av mm1 w2 hakz (hA1.below (unhide B2))
          clear hm2 hg2 hcw D1 Bw Bww N1 N4 N5 e0 e1 e2 hA1 E1 E2 E3 hf1 hf2
          go_upto_region 87 with (go_at_call 11; refine (unhide A1).mono ?_; rintro e w3 ⟨rfl, hB3⟩)
          have B3 : Hid (Below W.heap.size W w3) := (unhide B2).trans (hB3.mono (unhide B2).size)
          have S1 : Hid (Cnt w3 u1 F (k + 1)) := (unhide S1).below hB3 (unhide S1).lt
          clear f0 f1 f2 A1 hB3 B2
          have f0 : w3.cell? ⟨g2, (q1) * 3, none⟩ = some (.string x) := cell_below (unhide r0) (unhide B3)
          have f1 : w3.cell? ⟨g2, (q1) * 3 + 1, none⟩ = some (.string y) := cell_below (unhide r1) (unhide B3)
          have f2 : w3.cell? ⟨g2, (q1) * 3 + 2, none⟩ = some (.map mm2) := cell_below (unhide r2) (unhide B3)
          have A2 : Hid (Calls Try.prog 11 #[.agg #[.string x, .string y, .map mm2], .string x, .string y, .string ak, .string av] w3 fun e w' => e = .returned (.bool true) ∧ Below w3.heap.size w3 w') := sameEdge_any x y ak av mm2 w3 hakz (hA2.below (unhide B3))
          clear r0 r1 r2 hA2
          go_wp2_with (go_at_call 11; refine (unhide A2).mono ?_; rintro e w5 ⟨rfl, hB5⟩)
          have B5 : Hid (Below W.heap.size W w5) := (unhide B3).trans (hB5.mono (unhide B3).size)
          have R1 : Hid (Cnt w5 u1 F (k + 1)) := (unhide S1).below hB5 (unhide S1).lt
          clear f0 f1 f2 A2 hB5
          go_roundw
          case rel => exact ⟨k + 1, by omega, by go_num, R1, B5⟩
          case measure => simp [intOf]; omega
      · by_cases hxe : x = nf
        · have hqe : (x.toList == nf.toList) = true := by rw [hxe]; exact beq_self_eq_true _
          have hke : kof nf = kof x := by rw [hxe]
          obtain ⟨ca, hca⟩ : ∃ q, Hid (q = cnt (ins F c nf) (n + 1) (kof x)) := ⟨_, rfl⟩
          have hcae : ca = cc + 1 := by rw [unhide hca, unhide hcc, cnt_ins_gt _ hcn, if_pos hke]
          have hca1 : ca ≤ cc + 1 := Nat.le_of_eq hcae
          have hca2 : cc + 1 ≤ ca := Nat.le_of_eq hcae.symm
          clear hcae
          have hqq' : qq ≤ q1 := by have := cnt_add F c (kof x) (k - c); rw [show c + (k - c) = k by omega] at this; rw [unhide hqq, unhide hq1, hke, this]; exact Nat.le_add_right _ _
          obtain ⟨hpa, g2, cap2, mm2, hf2, r0, r1, r2, hA2⟩ := Part.at' (i := k + 1) (p := q1 + 1) (xf := x) (xt := y) (xk := ak) (xv := av) (unhide hPa) (by omega) (by rw [ins_gt (by omega)]; exact (unhide hx).symm) (by rw [ins_gt (by omega)]; exact (unhide hy).symm) (by rw [ins_gt (by omega)]; exact (unhide hak).symm) (by rw [ins_gt (by omega)]; exact (unhide hav).symm) (by rw [cnt_ins_gt _ (by omega), if_pos hke, unhide hq1]) (unhide hca)
          have hf2 := hide hf2
          have r0 := hide r0
          have r1 := hide r1
          have r2 := hide r2
          have HX := hide hxe
          have HK := hide hke
          clear hxe hke
          go_upto_region 85 with (first
            | (refine at_dst 321 rfl ?_; refine wpList_look_ok (.tmp 319) (.tmp 320) 33 rfl (by rfl) 26 (.slice none 0 0) Try.underlying33 zero26 (unhide N5) rfl x rfl hsz (.slice (some ⟨g2, 0, none⟩) ca cap2) (unhide hf2) ?_)
            | (refine at_dst 331 rfl ?_; refine wpList_look (.tmp 329) (.tmp 330) 35 rfl (by rfl) 3 (.int .i64 0) Try.underlying35 zero3 (unhide N1) rfl x rfl hsz (.int .i64 (cc : Nat)) (unhide Vc) ?_)
            | (refine at_dst 338 rfl ?_; refine wpList_look (.tmp 336) (.tmp 337) 35 rfl (by rfl) 3 (.int .i64 0) Try.underlying35 zero3 (unhide D1) rfl x rfl hsz (.int .i64 (q1 : Nat)) (unhide V1) ?_)
            | (at_mapUpdate; refine wpList_mput rfl (.tmp 339) (.tmp 340) (.tmp 342) 35 rfl 3 Try.underlying35 (unhide D1) (by unfold maxLen; omega) rfl x rfl hsz (.int .i64 ((q1 : Int) + 1)) rfl ?_; intro w2 hm2 hg2))
          have S1 : Hid (Cnt w2 u1 F (k + 1)) := Cnt.step (by rw [unhide hx]) (unhide hq1) (by simp) hm2
          have B2 : Hid (Below W.heap.size W w2) := (unhide Bw).grown hg2 (unhide Bw).size (by intro j e; injection e with e; omega)
          have f0 : w2.cell? ⟨g1, q1 * 3, none⟩ = some (.string x) := cell_below (unhide e0) (unhide B2)
          have f1 : w2.cell? ⟨g1, q1 * 3 + 1, none⟩ = some (.string y) := cell_below (unhide e1) (unhide B2)
          have f2 : w2.cell? ⟨g1, q1 * 3 + 2, none⟩ = some (.map mm1) := cell_below (unhide e2) (unhide B2)
          have A1 : Hid (Calls Try.prog 11 #[.agg #[.string x, .string y, .map mm1], .string x, .string y, .string ak, .string av] w2 fun e w' => e = .returned (.bool true) ∧ Below w2.heap.size w2 w') := sameEdge_any x y ak av mm1 w2 hakz (hA1.below (unhide B2))
          clear hm2 hg2 hcw D1 Bw Bww N1 N4 N5 e0 e1 e2 hA1 E1 E2 E3 hf1 hf2
          go_upto_region 87 with (go_at_call 11; refine (unhide A1).mono ?_; rintro e w3 ⟨rfl, hB3⟩)
          have B3 : Hid (Below W.heap.size W w3) := (unhide B2).trans (hB3.mono (unhide B2).size)
          have S1 : Hid (Cnt w3 u1 F (k + 1)) := (unhide S1).below hB3 (unhide S1).lt
          clear f0 f1 f2 A1 hB3 B2
          have f0 : w3.cell? ⟨g2, (q1 + 1) * 3, none⟩ = some (.string x) := cell_below (unhide r0) (unhide B3)
          have f1 : w3.cell? ⟨g2, (q1 + 1) * 3 + 1, none⟩ = some (.string y) := cell_below (unhide r1) (unhide B3)
          have f2 : w3.cell? ⟨g2, (q1 + 1) * 3 + 2, none⟩ = some (.map mm2) := cell_below (unhide r2) (unhide B3)
          have A2 : Hid (Calls Try.prog 11 #[.agg #[.string x, .string y, .map mm2], .string x, .string y, .string ak, .string av] w3 fun e w' => e = .returned (.bool true) ∧ Below w3.heap.size w3 w') := sameEdge_any x y ak av mm2 w3 hakz (hA2.below (unhide B3))
          clear r0 r1 r2 hA2
          go_wp2_with (go_at_call 11; refine (unhide A2).mono ?_; rintro e w5 ⟨rfl, hB5⟩)
          have B5 : Hid (Below W.heap.size W w5) := (unhide B3).trans (hB5.mono (unhide B3).size)
          have R1 : Hid (Cnt w5 u1 F (k + 1)) := (unhide S1).below hB5 (unhide S1).lt
          clear f0 f1 f2 A2 hB5
          go_roundw
          case rel => exact ⟨k + 1, by omega, by go_num, R1, B5⟩
          case measure => simp [intOf]; omega
        · have hqe : (x.toList == nf.toList) = false := by rw [beq_eq_false_iff_ne]; exact fun e => hxe (toList_inj e)
          have hke : ¬ kof nf = kof x := fun e => hxe (kof_inj e).symm
          obtain ⟨ca, hca⟩ : ∃ q, Hid (q = cnt (ins F c nf) (n + 1) (kof x)) := ⟨_, rfl⟩
          have hcae : ca = cc + 0 := by rw [unhide hca, unhide hcc, cnt_ins_gt _ hcn, if_neg hke]
          have hca1 : ca ≤ cc + 0 := Nat.le_of_eq hcae
          have hca2 : cc + 0 ≤ ca := Nat.le_of_eq hcae.symm
          clear hcae
          obtain ⟨hpa, g2, cap2, mm2, hf2, r0, r1, r2, hA2⟩ := Part.at' (i := k + 1) (p := q1) (xf := x) (xt := y) (xk := ak) (xv := av) (unhide hPa) (by omega) (by rw [ins_gt (by omega)]; exact (unhide hx).symm) (by rw [ins_gt (by omega)]; exact (unhide hy).symm) (by rw [ins_gt (by omega)]; exact (unhide hak).symm) (by rw [ins_gt (by omega)]; exact (unhide hav).symm) (by rw [cnt_ins_gt _ (by omega), if_neg hke, Nat.add_zero, unhide hq1]) (unhide hca)
          have hf2 := hide hf2
          have r0 := hide r0
          have r1 := hide r1
          have r2 := hide r2
          have HX := hide hxe
          have HK := hide hke
          clear hxe hke
          go_upto_region 85 with (first
            | (refine at_dst 321 rfl ?_; refine wpList_look_ok (.tmp 319) (.tmp 320) 33 rfl (by rfl) 26 (.slice none 0 0) Try.underlying33 zero26 (unhide N5) rfl x rfl hsz (.slice (some ⟨g2, 0, none⟩) ca cap2) (unhide hf2) ?_)
            | (refine at_dst 331 rfl ?_; refine wpList_look (.tmp 329) (.tmp 330) 35 rfl (by rfl) 3 (.int .i64 0) Try.underlying35 zero3 (unhide N1) rfl x rfl hsz (.int .i64 (cc : Nat)) (unhide Vc) ?_)
            | (refine at_dst 338 rfl ?_; refine wpList_look (.tmp 336) (.tmp 337) 35 rfl (by rfl) 3 (.int .i64 0) Try.underlying35 zero3 (unhide D1) rfl x rfl hsz (.int .i64 (q1 : Nat)) (unhide V1) ?_)
            | (at_mapUpdate; refine wpList_mput rfl (.tmp 339) (.tmp 340) (.tmp 342) 35 rfl 3 Try.underlying35 (unhide D1) (by unfold maxLen; omega) rfl x rfl hsz (.int .i64 ((q1 : Int) + 1)) rfl ?_; intro w2 hm2 hg2))
          have S1 : Hid (Cnt w2 u1 F (k + 1)) := Cnt.step (by rw [unhide hx]) (unhide hq1) (by simp) hm2
          have B2 : Hid (Below W.heap.size W w2) := (unhide Bw).grown hg2 (unhide Bw).size (by intro j e; injection e with e; omega)
          have f0 : w2.cell? ⟨g1, q1 * 3, none⟩ = some (.string x) := cell_below (unhide e0) (unhide B2)
          have f1 : w2.cell? ⟨g1, q1 * 3 + 1, none⟩ = some (.string y) := cell_below (unhide e1) (unhide B2)
          have f2 : w2.cell? ⟨g1, q1 * 3 + 2, none⟩ = some (.map mm1) := cell_below (unhide e2) (unhide B2)
          have A1 : Hid (Calls Try.prog 11 #[.agg #[.string x, .string y, .map mm1], .string x, .string y, .string ak, .string av] w2 fun e w' => e = .returned (.bool true) ∧ Below w2.heap.size w2 w') := sameEdge_any x y ak av mm1 w2 hakz (hA1.below (unhide B2))
          clear hm2 hg2 hcw D1 Bw Bww N1 N4 N5 e0 e1 e2 hA1 E1 E2 E3 hf1 hf2
          go_upto_region 87 with (go_at_call 11; refine (unhide A1).mono ?_; rintro e w3 ⟨rfl, hB3⟩)
          have B3 : Hid (Below W.heap.size W w3) := (unhide B2).trans (hB3.mono (unhide B2).size)
          have S1 : Hid (Cnt w3 u1 F (k + 1)) := (unhide S1).below hB3 (unhide S1).lt
          clear f0 f1 f2 A1 hB3 B2
          have f0 : w3.cell? ⟨g2, (q1) * 3, none⟩ = some (.string x) := cell_below (unhide r0) (unhide B3)
          have f1 : w3.cell? ⟨g2, (q1) * 3 + 1, none⟩ = some (.string y) := cell_below (unhide r1) (unhide B3)
          have f2 : w3.cell? ⟨g2, (q1) * 3 + 2, none⟩ = some (.map mm2) := cell_below (unhide r2) (unhide B3)
          have A2 : Hid (Calls Try.prog 11 #[.agg #[.string x, .string y, .map mm2], .string x, .string y, .string ak, .string av] w3 fun e w' => e = .returned (.bool true) ∧ Below w3.heap.size w3 w') := sameEdge_any x y ak av mm2 w3 hakz (hA2.below (unhide B3))
          clear r0 r1 r2 hA2
          go_wp2_with (go_at_call 11; refine (unhide A2).mono ?_; rintro e w5 ⟨rfl, hB5⟩)
          have B5 : Hid (Below W.heap.size W w5) := (unhide B3).trans (hB5.mono (unhide B3).size)
          have R1 : Hid (Cnt w5 u1 F (k + 1)) := (unhide S1).below hB5 (unhide S1).lt
          clear f0 f1 f2 A2 hB5
          go_roundw
          case rel => exact ⟨k + 1, by omega, by go_num, R1, B5⟩
          case measure => simp [intOf]; omega
    · go_wp2
      go_ret
      exact ⟨rfl, Bww⟩

end Go.Proofs.Qxb6631238a
