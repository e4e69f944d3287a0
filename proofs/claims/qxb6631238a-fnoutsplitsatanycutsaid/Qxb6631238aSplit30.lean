/-
  THE MAIN WALK of FnOutSplitsAtAnyCut: three graphs and their Outs: seat b6631238a.
-/
import Derived.Test.Qxb6631238aSplit36
namespace Go.Proofs.Qxb6631238a
open Go.RowKit Go.Maps

set_option maxRecDepth 100000 in
set_option maxHeartbeats 8000000 in
theorem tail30 (s0 s1 s2 : ByteArray) (b3 b4 : Bool) (a0 a1 a2 a3 : Option Addr) (n n1 n2 n3 p0 p1 p2 p3 c : Nat) (F T K V : Nat → ByteArray) (w : World)  {c10 c11 c12 c13 c14 c15 c16 c17 c18 c19 c21 c23 c24 c25 c26 c27 c28 c29 c30 c31 c32 c33 c34 c35 c36 c37 c38 c39 c40 c41 c42 c43 c44 c45 c46 c47 c48 c49 c50 c51 c52 c53 c54 c55 c56 c57 c58 c59 c60 c61 c62 c63 c64 c65 c66 c67 c68 c69 c70 c71 c72 c73 c74 c75 c76 c77 c78 c79 c80 c81 c82 c83 c84 c85 c86 c87 c88 c89 c90 c91 c92 c93 c94 c95 c96 c97 c98 c99 c100 c101 c102 c103 c104 c105 c106 c107 c108 c109 c110 c111 c112 c113 c114 c115 c116 c117 c118 c119 c120 c121 c122 c123 c124 c125 c126 c127 c128 c129 c130 c131 c132 c133 c134 c135 c136 c137 c138 c139 c140 c141 c142 c143 c144 c145 c146 c147 c148 c149 c150 c151 c152 c153 c154 c155 c156 c157 c158 c159 c160 c161 c162 c163 c164 c165 c166 c167 c168 c169 c170 c171 c172 c173 c174 c175 c176 c177 c178 c179 c180 c181 c182 c183 c184 c185 c186 c187 c188 c189 c190 c191 c192 c193 c194 c195 c196 c197 c198 c199 c200 c201 c202 c203 c204 c205 c206 c207 c208 c209 c210 c211 c212 c213 c214 c215 c216 c217 c218 c219 c220 c221 c222 c223 c224 c225 c226 c227 c228 c229 c230 c231 c232 c233 c234 c235 c236 c237 c238 c239 c240 c241 c242 c243 c244 c245 c246 c247 c248 c249 c250 c251 c252 c253 c254 c255 c256 c257 c258 c259 c260 c261 c262 c263 c264 c265 c266 c267 c268 c269 c270 c271 c272 c273 c274 c275 c276 c277 c278 c279 c280 c281 c282 c283 c284 c285 c286 c287 c288 c289 c290 c291 c292 c293 c294 c295 c296 c297 c298 c299 c300 c301 c302 c303 c304 c305 c306 c307 c308 c309 c310 c311 c312 c313 c314 c315 c316 c317 c318 c319 c320 c321 c322 c323 c324 c325 c326 c327 c328 c329 c330 c331 c332 c333 c334 c335 c336 c337 c338 c339 c340 c341 c342 c343 c344 c345 c346 c347 c348 c349 c350 c351 c352 c353 c354 c355 c356 c357 c358 c359 : Value} (K0 : Act → World → Prop) (hn : n ≤ 65536) (hcn : c ≤ n)
    (hF : Hid (Strs w a0 n F)) (hT : Hid (Strs w a1 n1 T)) (hK : Hid (Strs w a2 n2 K)) (hV : Hid (Strs w a3 n3 V))
    (hK0 : ∀ a w', Code.wp Try.prog (restAt 30 body3) (bodyPost Try.prog Try.f3 (Yes w)) a w' → K0 a w') :
    Code.wp Try.prog (regAt 30 body3) (Exit.then K0 (bodyPost Try.prog Try.f3 (Yes w))) ⟨#[.string s0, .string s1, .string s2, .bool b3, .bool b4, .slice a0 n p0, .slice a1 n1 p1, .slice a2 n2 p2, .slice a3 n3 p3, .int .i64 c, c10, c11, c12, c13, c14, c15, c16, c17, c18, c19, .bool false, c21, .int .i64 n, c23, c24, c25, c26, c27, c28, c29, c30, c31, c32, c33, c34, c35, c36, c37, c38, c39, c40, c41, c42, c43, c44, c45, c46, c47, c48, c49, c50, c51, c52, c53, c54, c55, c56, c57, c58, c59, c60, c61, c62, c63, c64, c65, c66, c67, c68, c69, c70, c71, c72, c73, c74, c75, c76, c77, c78, c79, c80, c81, c82, c83, c84, c85, c86, c87, c88, c89, c90, c91, c92, c93, c94, c95, c96, c97, c98, c99, c100, c101, c102, c103, c104, c105, c106, c107, c108, c109, c110, c111, c112, c113, c114, c115, c116, c117, c118, c119, c120, c121, c122, c123, c124, c125, c126, c127, c128, c129, c130, c131, c132, c133, c134, c135, c136, c137, c138, c139, c140, c141, c142, c143, c144, c145, c146, c147, c148, c149, c150, c151, c152, c153, c154, c155, c156, c157, c158, c159, c160, c161, c162, c163, c164, c165, c166, c167, c168, c169, c170, c171, c172, c173, c174, c175, c176, c177, c178, c179, c180, c181, c182, c183, c184, c185, c186, c187, c188, c189, c190, c191, c192, c193, c194, c195, c196, c197, c198, c199, c200, c201, c202, c203, c204, c205, c206, c207, c208, c209, c210, c211, c212, c213, c214, c215, c216, c217, c218, c219, c220, c221, c222, c223, c224, c225, c226, c227, c228, c229, c230, c231, c232, c233, c234, c235, c236, c237, c238, c239, c240, c241, c242, c243, c244, c245, c246, c247, c248, c249, c250, c251, c252, c253, c254, c255, c256, c257, c258, c259, c260, c261, c262, c263, c264, c265, c266, c267, c268, c269, c270, c271, c272, c273, c274, c275, c276, c277, c278, c279, c280, c281, c282, c283, c284, c285, c286, c287, c288, c289, c290, c291, c292, c293, c294, c295, c296, c297, c298, c299, c300, c301, c302, c303, c304, c305, c306, c307, c308, c309, c310, c311, c312, c313, c314, c315, c316, c317, c318, c319, c320, c321, c322, c323, c324, c325, c326, c327, c328, c329, c330, c331, c332, c333, c334, c335, c336, c337, c338, c339, c340, c341, c342, c343, c344, c345, c346, c347, c348, c349, c350, c351, c352, c353, c354, c355, c356, c357, c358, c359], []⟩ w := by
  conv => arg 2; whnf
  obtain ⟨R, hR⟩ : ∃ R, R = restAt 30 body3 := ⟨_, rfl⟩
  rw [← hR] at hK0
  conv at hR => rhs; whnf
  subst hR
  have E80 : Hid (∀ hi W, Below w.heap.size w W → hi ≤ n → _) := fun hi W hb hh => buildG_any a0 a1 a2 a3 n n1 n2 n3 p0 p1 p2 p3 F T K V 0 hi w W hb (unhide hF) (unhide hT) (unhide hK) (unhide hV) (Nat.zero_le _) hh hn
  have E8 : Hid (∀ lo hi W, Below w.heap.size w W → lo ≤ hi → hi ≤ n → _) := fun lo hi W hb hl hh => buildG_any a0 a1 a2 a3 n n1 n2 n3 p0 p1 p2 p3 F T K V lo hi w W hb (unhide hF) (unhide hT) (unhide hK) (unhide hV) hl hh hn
  simp only [Nat.zero_add, Nat.sub_zero] at E80
  have hFz : Hid (∀ j, j < n → (F j).size ≤ maxLen) := fun j hj => (unhide hF j hj).1
  go_upto_region 31 with (go_at_call 8; refine (unhide E80 n w (Below.refl _ _) (Nat.le_refl _)).mono ?_; rintro e w1 ⟨g1, cap1, rfl, hb1, hB1, hG1⟩)
  have G1 := hG1 (.string s0) (.string s1) (.string s2) (.bool b3) (.bool b4) (.map none) (.slice none 0 0)
  have B1 := hb1.alloc hb1.size (.cells #[.string s0, .string s1, .string s2, .bool b3, .bool b4, .map none, .slice none 0 0, .slice (some ⟨g1, 0, none⟩) n cap1] 32)
  generalize w1.heap.size = gp1 at G1 ⊢
  refine gen_world (fun W => Hid (Graph W gp1 F (pickF T n1) (pickF K n2) (pickF V n3) n) ∧ Hid (Below w.heap.size w W)) ⟨G1, B1⟩ ?_
  clear G1 B1 hG1 hB1 hb1
  rintro W1 ⟨G1, B1⟩
  go_upto_region 32 with (go_at_call 8; refine (unhide E80 c W1 B1 hcn).mono ?_; rintro e w2 ⟨g2, cap2, rfl, hb2, hB2, hG2⟩)
  have G2 := hG2 (.string s0) (.string s1) (.string s2) (.bool b3) (.bool b4) (.map none) (.slice none 0 0)
  have B2 := hb2.alloc hb2.size (.cells #[.string s0, .string s1, .string s2, .bool b3, .bool b4, .map none, .slice none 0 0, .slice (some ⟨g2, 0, none⟩) c cap2] 32)
  have G12 := (unhide G1).below (hB2.alloc hB2.size (.cells #[.string s0, .string s1, .string s2, .bool b3, .bool b4, .map none, .slice none 0 0, .slice (some ⟨g2, 0, none⟩) c cap2] 32))
  generalize w2.heap.size = gp2 at G2 ⊢
  refine gen_world (fun W => Hid (Graph W gp1 F (pickF T n1) (pickF K n2) (pickF V n3) n) ∧ Hid (Graph W gp2 F (pickF T n1) (pickF K n2) (pickF V n3) c) ∧ Hid (Below w.heap.size w W)) ⟨G12, G2, B2⟩ ?_
  clear G1 G12 G2 B1 B2 hG2 hB2 hb2
  rintro W2 ⟨G1, G2, B2⟩
  go_upto_region 33 with (go_at_call 8; refine (unhide E8 c n W2 B2 hcn (Nat.le_refl _)).mono ?_; rintro e w3 ⟨g3, cap3, rfl, hb3, hB3, hG3⟩)
  have G3 := hG3 (.string s0) (.string s1) (.string s2) (.bool b3) (.bool b4) (.map none) (.slice none 0 0)
  have B3 := hb3.alloc hb3.size (.cells #[.string s0, .string s1, .string s2, .bool b3, .bool b4, .map none, .slice none 0 0, .slice (some ⟨g3, 0, none⟩) (n - c) cap3] 32)
  have hB := hB3.alloc hB3.size (.cells #[.string s0, .string s1, .string s2, .bool b3, .bool b4, .map none, .slice none 0 0, .slice (some ⟨g3, 0, none⟩) (n - c) cap3] 32)
  generalize w3.heap.size = gp3 at G3 ⊢
  refine gen_world (fun W => Hid (Graph W gp1 F (pickF T n1) (pickF K n2) (pickF V n3) n) ∧ Hid (Graph W gp2 F (pickF T n1) (pickF K n2) (pickF V n3) c) ∧
    Hid (Graph W gp3 (fun j => F (c + j)) (fun j => pickF T n1 (c + j)) (fun j => pickF K n2 (c + j)) (fun j => pickF V n3 (c + j)) (n - c)) ∧ Hid (Below w.heap.size w W)) ⟨(unhide G1).below hB, (unhide G2).below hB, G3, B3⟩ ?_
  clear G1 G2 G3 B2 B3 hG3 hB3 hb3 hB
  rintro W3 ⟨G1, G2, G3, B3⟩
  go_upto_region 34 with (go_at_call 9; refine (outG_any (unhide G1) (by omega) (unhide hFz)).mono ?_; rintro e w4 ⟨ff, rfl, hPf, hB4⟩)
  generalize W3.heap.size = bf at hPf ⊢
  refine gen_world (fun W => Hid (Part W bf F (pickF T n1) (pickF K n2) (pickF V n3) n ff) ∧ Hid (Graph W gp2 F (pickF T n1) (pickF K n2) (pickF V n3) c) ∧
    Hid (Graph W gp3 (fun j => F (c + j)) (fun j => pickF T n1 (c + j)) (fun j => pickF K n2 (c + j)) (fun j => pickF V n3 (c + j)) (n - c)) ∧ Hid (Below w.heap.size w W)) ⟨hPf, (unhide G2).below hB4, (unhide G3).below hB4, (unhide B3).trans (hB4.mono (unhide B3).size)⟩ ?_
  clear hPf G1 G2 G3 B3 hB4
  rintro W4 ⟨hPf, G2, G3, B4⟩
  go_upto_region 35 with (go_at_call 9; refine (outG_any (unhide G2) (by omega) (fun j hj => unhide hFz j (by omega))).mono ?_; rintro e w5 ⟨fl, rfl, hPl, hB5⟩)
  generalize W4.heap.size = bl at hPl ⊢
  refine gen_world (fun W => Hid (Part W bf F (pickF T n1) (pickF K n2) (pickF V n3) n ff) ∧ Hid (Part W bl F (pickF T n1) (pickF K n2) (pickF V n3) c fl) ∧
    Hid (Graph W gp3 (fun j => F (c + j)) (fun j => pickF T n1 (c + j)) (fun j => pickF K n2 (c + j)) (fun j => pickF V n3 (c + j)) (n - c)) ∧ Hid (Below w.heap.size w W)) ⟨(unhide hPf).below hB5, hPl, (unhide G3).below hB5, (unhide B4).trans (hB5.mono (unhide B4).size)⟩ ?_
  clear hPf hPl G2 G3 B4 hB5
  rintro W5 ⟨hPf, hPl, G3, B5⟩
  go_upto_region 36 with (go_at_call 9; refine (outG_any (unhide G3) (by omega) (fun j hj => unhide hFz (c + j) (by omega))).mono ?_; rintro e w6 ⟨fr, rfl, hPr, hB6⟩)
  generalize W5.heap.size = br at hPr ⊢
  refine tail36 s0 s1 s2 b3 b4 a0 a1 a2 a3 n n1 n2 n3 p0 p1 p2 p3 c F T K V w bf bl br ff fl fr _ _ hn hcn hF hT hK hV ((unhide B5).trans (hB6.mono (unhide B5).size)) ((unhide hPf).below hB6) ((unhide hPl).below hB6) hPr ?_
  assumption

end Go.Proofs.Qxb6631238a
