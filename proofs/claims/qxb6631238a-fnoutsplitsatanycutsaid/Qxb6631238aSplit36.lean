/-
  THE MAIN WALK of FnOutSplitsAtAnyCut: the counting loop: seat b6631238a.
-/
import Derived.Test.Qxb6631238aSplit49
namespace Go.Proofs.Qxb6631238a
open Go.RowKit Go.Maps

set_option maxRecDepth 100000 in
set_option maxHeartbeats 8000000 in
theorem tail36 (s0 s1 s2 : ByteArray) (b3 b4 : Bool) (a0 a1 a2 a3 : Option Addr) (n n1 n2 n3 p0 p1 p2 p3 c : Nat) (F T K V : Nat → ByteArray) (w : World) (bf bl br : Nat) (ff fl fr : List UInt8 → Option Value) (W : World) {c10 c11 c12 c13 c14 c15 c16 c17 c18 c19 c21 c23 c24 c25 c29 c30 c31 c32 c33 c34 c35 c36 c37 c38 c39 c40 c41 c42 c43 c44 c45 c46 c47 c48 c49 c50 c51 c52 c53 c54 c55 c56 c57 c58 c59 c60 c61 c62 c63 c64 c65 c66 c67 c68 c69 c70 c71 c72 c73 c74 c75 c76 c77 c78 c79 c80 c81 c82 c83 c84 c85 c86 c87 c88 c89 c90 c91 c92 c93 c94 c95 c96 c97 c98 c99 c100 c101 c102 c103 c104 c105 c106 c107 c108 c109 c110 c111 c112 c113 c114 c115 c116 c117 c118 c119 c120 c121 c122 c123 c124 c125 c126 c127 c128 c129 c130 c131 c132 c133 c134 c135 c136 c137 c138 c139 c140 c141 c142 c143 c144 c145 c146 c147 c148 c149 c150 c151 c152 c153 c154 c155 c156 c157 c158 c159 c160 c161 c162 c163 c164 c165 c166 c167 c168 c169 c170 c171 c172 c173 c174 c175 c176 c177 c178 c179 c180 c181 c182 c183 c184 c185 c186 c187 c188 c189 c190 c191 c192 c193 c194 c195 c196 c197 c198 c199 c200 c201 c202 c203 c204 c205 c206 c207 c208 c209 c210 c211 c212 c213 c214 c215 c216 c217 c218 c219 c220 c221 c222 c223 c224 c225 c226 c227 c228 c229 c230 c231 c232 c233 c234 c235 c236 c237 c238 c239 c240 c241 c242 c243 c244 c245 c246 c247 c248 c249 c250 c251 c252 c253 c254 c255 c256 c257 c258 c259 c260 c261 c262 c263 c264 c265 c266 c267 c268 c269 c270 c271 c272 c273 c274 c275 c276 c277 c278 c279 c280 c281 c282 c283 c284 c285 c286 c287 c288 c289 c290 c291 c292 c293 c294 c295 c296 c297 c298 c299 c300 c301 c302 c303 c304 c305 c306 c307 c308 c309 c310 c311 c312 c313 c314 c315 c316 c317 c318 c319 c320 c321 c322 c323 c324 c325 c326 c327 c328 c329 c330 c331 c332 c333 c334 c335 c336 c337 c338 c339 c340 c341 c342 c343 c344 c345 c346 c347 c348 c349 c350 c351 c352 c353 c354 c355 c356 c357 c358 c359 : Value} (K0 : Act → World → Prop) (hn : n ≤ 65536) (hcn : c ≤ n)
    (hF : Hid (Strs w a0 n F)) (hT : Hid (Strs w a1 n1 T)) (hK : Hid (Strs w a2 n2 K)) (hV : Hid (Strs w a3 n3 V)) (hb : Hid (Below w.heap.size w W))
    (hPf : Hid (Part W bf F (pickF T n1) (pickF K n2) (pickF V n3) n ff)) (hPl : Hid (Part W bl F (pickF T n1) (pickF K n2) (pickF V n3) c fl))
    (hPr : Hid (Part W br (fun j => F (c + j)) (fun j => pickF T n1 (c + j)) (fun j => pickF K n2 (c + j)) (fun j => pickF V n3 (c + j)) (n - c) fr))
    (hK0 : ∀ a w', Code.wp Try.prog (restAt 36 body3) (bodyPost Try.prog Try.f3 (Yes w)) a w' → K0 a w') :
    Code.wp Try.prog (regAt 36 body3) (Exit.then K0 (bodyPost Try.prog Try.f3 (Yes w))) ⟨#[.string s0, .string s1, .string s2, .bool b3, .bool b4, .slice a0 n p0, .slice a1 n1 p1, .slice a2 n2 p2, .slice a3 n3 p3, .int .i64 c, c10, c11, c12, c13, c14, c15, c16, c17, c18, c19, .bool false, c21, .int .i64 n, c23, c24, c25, .map (some bf), .map (some bl), .map (some br), c29, c30, c31, c32, c33, c34, c35, c36, c37, c38, c39, c40, c41, c42, c43, c44, c45, c46, c47, c48, c49, c50, c51, c52, c53, c54, c55, c56, c57, c58, c59, c60, c61, c62, c63, c64, c65, c66, c67, c68, c69, c70, c71, c72, c73, c74, c75, c76, c77, c78, c79, c80, c81, c82, c83, c84, c85, c86, c87, c88, c89, c90, c91, c92, c93, c94, c95, c96, c97, c98, c99, c100, c101, c102, c103, c104, c105, c106, c107, c108, c109, c110, c111, c112, c113, c114, c115, c116, c117, c118, c119, c120, c121, c122, c123, c124, c125, c126, c127, c128, c129, c130, c131, c132, c133, c134, c135, c136, c137, c138, c139, c140, c141, c142, c143, c144, c145, c146, c147, c148, c149, c150, c151, c152, c153, c154, c155, c156, c157, c158, c159, c160, c161, c162, c163, c164, c165, c166, c167, c168, c169, c170, c171, c172, c173, c174, c175, c176, c177, c178, c179, c180, c181, c182, c183, c184, c185, c186, c187, c188, c189, c190, c191, c192, c193, c194, c195, c196, c197, c198, c199, c200, c201, c202, c203, c204, c205, c206, c207, c208, c209, c210, c211, c212, c213, c214, c215, c216, c217, c218, c219, c220, c221, c222, c223, c224, c225, c226, c227, c228, c229, c230, c231, c232, c233, c234, c235, c236, c237, c238, c239, c240, c241, c242, c243, c244, c245, c246, c247, c248, c249, c250, c251, c252, c253, c254, c255, c256, c257, c258, c259, c260, c261, c262, c263, c264, c265, c266, c267, c268, c269, c270, c271, c272, c273, c274, c275, c276, c277, c278, c279, c280, c281, c282, c283, c284, c285, c286, c287, c288, c289, c290, c291, c292, c293, c294, c295, c296, c297, c298, c299, c300, c301, c302, c303, c304, c305, c306, c307, c308, c309, c310, c311, c312, c313, c314, c315, c316, c317, c318, c319, c320, c321, c322, c323, c324, c325, c326, c327, c328, c329, c330, c331, c332, c333, c334, c335, c336, c337, c338, c339, c340, c341, c342, c343, c344, c345, c346, c347, c348, c349, c350, c351, c352, c353, c354, c355, c356, c357, c358, c359], []⟩ W := by
  conv => arg 2; whnf
  obtain ⟨R, hR⟩ : ∃ R, R = restAt 36 body3 := ⟨_, rfl⟩
  rw [← hR] at hK0
  conv at hR => rhs; whnf
  subst hR
  have hmm := @run_makeMap Try.prog
  go_upto_region 39 with fail
  clear hmm
  refine gen_world (fun X => Hid (Cnt X W.heap.size F 0) ∧ Hid (Cnt X (W.heap.size + 1) F 0) ∧ Hid (Cnt X (W.heap.size + 1 + 1) (fun j => F (c + j)) 0) ∧ Hid (Below W.heap.size W X)) (cnt3 W F F (fun j => F (c + j))) ?_
  rintro X0 ⟨C1, C2, C3, BX⟩
  obtain ⟨c3, hc3⟩ : ∃ x, x = W.heap.size + 1 + 1 := ⟨_, rfl⟩
  obtain ⟨c2, hc2⟩ : ∃ x, x = W.heap.size + 1 := ⟨_, rfl⟩
  obtain ⟨c1, hc1⟩ : ∃ x, x = W.heap.size := ⟨_, rfl⟩
  rw [← hc3] at C3 ⊢
  rw [← hc2] at C2 ⊢
  rw [← hc1] at C1 ⊢
  have d0 : W.heap.size ≤ c1 := by omega
  have d12 : c1 < c2 := by omega
  have d23 : c2 < c3 := by omega
  clear hc1 hc2 hc3
  go_wp2
  go_loopw [32] (fun i wr => ∃ (k kl kr : Nat), k ≤ n ∧ i = .int .i64 k ∧ Hid (kl = min k c) ∧ Hid (kr = k - c) ∧ Hid (Cnt wr c1 F k) ∧ Hid (Cnt wr c2 F kl) ∧ Hid (Cnt wr c3 (fun j => F (c + j)) kr) ∧ Hid (Below W.heap.size W wr)) (fun i _ => n - (intOf i).toNat)
  case atStart => exact ⟨0, 0, 0, Nat.zero_le _, rfl, (Nat.zero_min _).symm, (Nat.zero_sub _).symm, C1, C2, C3, BX⟩
  case round =>
    obtain ⟨k, kl, kr, hk, rfl, hkl, hkr, D1, D2, D3, Bw⟩ := hrel
    have Bww : Hid (Below w.heap.size w wr) := (unhide hb).trans ((unhide Bw).mono (unhide hb).size)
    clear C1 C2 C3 BX
    by_cases hlt : k < n
    · obtain ⟨hsz, b, off, rfl, hc⟩ := unhide hF k hlt
      obtain ⟨x, hx⟩ : ∃ x, Hid (x = F k) := ⟨_, rfl⟩
      rw [← unhide hx] at hc hsz
      have hcw : wr.cell? ⟨b, off + k, none⟩ = some (.string x) := cell_below hc Bww
      clear hc
      obtain ⟨q1, hq1⟩ : ∃ q, Hid (q = cnt F k (kof x)) := ⟨_, rfl⟩
      have hq1b : q1 ≤ k := by have := cnt_le F k (kof x); rw [unhide hq1]; exact this
      have V1 : Hid ((cf F k (kof x)).getD (.int .i64 0) = .int .i64 (q1 : Nat)) := by rw [unhide hq1]; exact cf_get _ _ _
      go_upto_region 44 with (first
        | (refine at_dst 179 rfl ?_; refine wpList_look (.tmp 177) (.tmp 178) 35 rfl (by rfl) 3 (.int .i64 0) Try.underlying35 zero3 (unhide D1) rfl x rfl hsz (.int .i64 (q1 : Nat)) (unhide V1) ?_)
        | (at_mapUpdate; refine wpList_mput rfl (.tmp 177) (.tmp 178) (.tmp 180) 35 rfl 3 Try.underlying35 (unhide D1) (by unfold maxLen; omega) rfl x rfl hsz (.int .i64 ((q1 : Int) + 1)) rfl ?_; intro w2 hm2 hg2))
      have S1 : Hid (Cnt w2 c1 F (k + 1)) := Cnt.step (by rw [unhide hx]) (unhide hq1) (by simp) hm2
      have B2 : Hid (Below W.heap.size W w2) := (unhide Bw).grown hg2 (unhide Bw).size (by intro j e; injection e with e; omega)
      have T2 : Hid (Cnt w2 c2 F kl) := (unhide D2).kept hg2 (by intro e; injection e with e; omega)
      have T3 : Hid (Cnt w2 c3 (fun j => F (c + j)) kr) := (unhide D3).kept hg2 (by intro e; injection e with e; omega)
      clear hm2 hg2 hcw D1 D2 D3 Bw Bww
      by_cases hlc : k < c
      · have e : kl = k := by have := unhide hkl; omega
        rw [e] at T2
        go_wp2_with (first
          | (refine at_dst 186 rfl ?_; refine wpList_look (.tmp 184) (.tmp 185) 35 rfl (by rfl) 3 (.int .i64 0) Try.underlying35 zero3 (unhide T2) rfl x rfl hsz (.int .i64 (q1 : Nat)) (unhide V1) ?_)
          | (at_mapUpdate; refine wpList_mput rfl (.tmp 184) (.tmp 185) (.tmp 187) 35 rfl 3 Try.underlying35 (unhide T2) (by unfold maxLen; omega) rfl x rfl hsz (.int .i64 ((q1 : Int) + 1)) rfl ?_; intro w3 hm3 hg3))
        have S2 : Hid (Cnt w3 c2 F (k + 1)) := Cnt.step (by rw [unhide hx]) (unhide hq1) (by simp) hm3
        have B3 : Hid (Below W.heap.size W w3) := (unhide B2).grown hg3 (unhide B2).size (by intro j e; injection e with e; omega)
        have S1' : Hid (Cnt w3 c1 F (k + 1)) := (unhide S1).kept hg3 (by intro e; injection e with e; omega)
        have S3 : Hid (Cnt w3 c3 (fun j => F (c + j)) kr) := (unhide T3).kept hg3 (by intro e; injection e with e; omega)
        go_roundw
        case rel => exact ⟨k + 1, k + 1, kr, by omega, by go_num, (show k + 1 = min (k + 1) c by omega), (show kr = k + 1 - c by have := unhide hkr; omega), S1', S2, S3, B3⟩
        case measure => simp [intOf]; omega
      · obtain ⟨q3, hq3⟩ : ∃ q, Hid (q = cnt (fun j => F (c + j)) kr (kof x)) := ⟨_, rfl⟩
        have hkr' : kr ≤ k := by have := unhide hkr; omega
        have hq3b : q3 ≤ kr := by have := cnt_le (fun j => F (c + j)) kr (kof x); rw [unhide hq3]; exact this
        have V3 : Hid ((cf (fun j => F (c + j)) kr (kof x)).getD (.int .i64 0) = .int .i64 (q3 : Nat)) := by rw [unhide hq3]; exact cf_get _ _ _
        go_wp2_with (first
          | (refine at_dst 190 rfl ?_; refine wpList_look (.tmp 188) (.tmp 189) 35 rfl (by rfl) 3 (.int .i64 0) Try.underlying35 zero3 (unhide T3) rfl x rfl hsz (.int .i64 (q3 : Nat)) (unhide V3) ?_)
          | (at_mapUpdate; refine wpList_mput rfl (.tmp 188) (.tmp 189) (.tmp 191) 35 rfl 3 Try.underlying35 (unhide T3) (by unfold maxLen; omega) rfl x rfl hsz (.int .i64 ((q3 : Int) + 1)) rfl ?_; intro w3 hm3 hg3))
        have S3 : Hid (Cnt w3 c3 (fun j => F (c + j)) (kr + 1)) := Cnt.step (by show kof (F (c + kr)) = kof x; rw [unhide hx, unhide hkr, show c + (k - c) = k by omega]) (unhide hq3) (by simp) hm3
        have B3 : Hid (Below W.heap.size W w3) := (unhide B2).grown hg3 (unhide B2).size (by intro j e; injection e with e; omega)
        have S1' : Hid (Cnt w3 c1 F (k + 1)) := (unhide S1).kept hg3 (by intro e; injection e with e; omega)
        have S2 : Hid (Cnt w3 c2 F kl) := (unhide T2).kept hg3 (by intro e; injection e with e; omega)
        go_roundw
        case rel => exact ⟨k + 1, kl, kr + 1, by omega, by go_num, (show kl = min (k + 1) c by have := unhide hkl; omega), (show kr + 1 = k + 1 - c by have := unhide hkr; omega), S1', S2, S3, B3⟩
        case measure => simp [intOf]; omega
    · have e0 : k = n := by omega
      have e1 : kl = c := by have := unhide hkl; omega
      have e2 : kr = n - c := by have := unhide hkr; omega
      rw [e0] at D1
      rw [e1] at D2
      rw [e2] at D3
      have Q1 : Hid (Part wr bf F (pickF T n1) (pickF K n2) (pickF V n3) n ff) := (unhide hPf).below (unhide Bw)
      have Q2 : Hid (Part wr bl F (pickF T n1) (pickF K n2) (pickF V n3) c fl) := (unhide hPl).below (unhide Bw)
      have Q3 : Hid (Part wr br (fun j => F (c + j)) (fun j => pickF T n1 (c + j)) (fun j => pickF K n2 (c + j)) (fun j => pickF V n3 (c + j)) (n - c) fr) := (unhide hPr).below (unhide Bw)
      go_upto_region 49 with (first
        | (refine at_dst 193 rfl ?_; refine wpList_mlen (.tmp 192) 33 rfl (by rfl) 26 Try.underlying33 (unhide Q1).map rfl ?_)
        | (refine at_dst 195 rfl ?_; refine wpList_mlen (.tmp 194) 35 rfl (by rfl) 3 Try.underlying35 (unhide D1) rfl ?_)
        | (refine at_dst 199 rfl ?_; refine wpList_mlen (.tmp 198) 33 rfl (by rfl) 26 Try.underlying33 (unhide Q2).map rfl ?_)
        | (refine at_dst 201 rfl ?_; refine wpList_mlen (.tmp 200) 35 rfl (by rfl) 3 Try.underlying35 (unhide D2) rfl ?_)
        | (refine at_dst 206 rfl ?_; refine wpList_mlen (.tmp 205) 33 rfl (by rfl) 26 Try.underlying33 (unhide Q3).map rfl ?_)
        | (refine at_dst 208 rfl ?_; refine wpList_mlen (.tmp 207) 35 rfl (by rfl) 3 Try.underlying35 (unhide D3) rfl ?_))
      refine tail49 s0 s1 s2 b3 b4 a0 a1 a2 a3 n n1 n2 n3 p0 p1 p2 p3 c F T K V w bf bl br ff fl fr _ c1 c2 c3 _ hn hcn hF hT hK hV Bww Q1 Q2 Q3 D1 D2 D3 ?_
      assumption

end Go.Proofs.Qxb6631238a
