/-
  THE MAIN WALK of FnOutSplitsAtAnyCut: the second loop: seat b6631238a.
-/
import Derived.Test.Qxb6631238aTail
namespace Go.Proofs.Qxb6631238a
open Go.RowKit Go.Maps

set_option maxRecDepth 100000 in
set_option maxHeartbeats 8000000 in
theorem tail49 (s0 s1 s2 : ByteArray) (b3 b4 : Bool) (a0 a1 a2 a3 : Option Addr) (n n1 n2 n3 p0 p1 p2 p3 c : Nat) (F T K V : Nat → ByteArray) (w : World) (bf bl br : Nat) (ff fl fr : List UInt8 → Option Value) (W : World) (c1 c2 c3 : Nat) {c10 c11 c12 c13 c14 c15 c16 c17 c18 c19 c21 c23 c24 c25 c32 c33 c34 c35 c36 c37 c38 c39 c40 c41 c42 c43 c44 c45 c46 c47 c48 c49 c50 c51 c52 c53 c54 c55 c56 c57 c58 c59 c60 c61 c62 c63 c64 c65 c66 c67 c68 c69 c70 c71 c72 c73 c74 c75 c76 c77 c78 c79 c80 c81 c82 c83 c84 c85 c86 c87 c88 c89 c90 c91 c92 c93 c94 c95 c96 c97 c98 c99 c100 c101 c102 c103 c104 c105 c106 c107 c108 c109 c110 c111 c112 c113 c114 c115 c116 c117 c118 c119 c120 c121 c122 c123 c124 c125 c126 c127 c128 c129 c130 c131 c132 c133 c134 c135 c136 c137 c138 c139 c140 c141 c142 c143 c144 c145 c146 c147 c148 c149 c150 c151 c152 c153 c154 c155 c156 c157 c158 c159 c160 c161 c162 c163 c164 c165 c166 c167 c168 c169 c170 c171 c172 c173 c174 c175 c176 c177 c178 c179 c180 c181 c182 c183 c184 c185 c186 c187 c188 c189 c190 c191 c192 c193 c194 c195 c196 c197 c198 c199 c200 c201 c202 c203 c204 c205 c206 c207 c208 c209 c210 c211 c212 c213 c214 c215 c216 c217 c218 c219 c220 c221 c222 c223 c224 c225 c226 c227 c228 c229 c230 c231 c232 c233 c234 c235 c236 c237 c238 c239 c240 c241 c242 c243 c244 c245 c246 c247 c248 c249 c250 c251 c252 c253 c254 c255 c256 c257 c258 c259 c260 c261 c262 c263 c264 c265 c266 c267 c268 c269 c270 c271 c272 c273 c274 c275 c276 c277 c278 c279 c280 c281 c282 c283 c284 c285 c286 c287 c288 c289 c290 c291 c292 c293 c294 c295 c296 c297 c298 c299 c300 c301 c302 c303 c304 c305 c306 c307 c308 c309 c310 c311 c312 c313 c314 c315 c316 c317 c318 c319 c320 c321 c322 c323 c324 c325 c326 c327 c328 c329 c330 c331 c332 c333 c334 c335 c336 c337 c338 c339 c340 c341 c342 c343 c344 c345 c346 c347 c348 c349 c350 c351 c352 c353 c354 c355 c356 c357 c358 c359 : Value} (K0 : Act → World → Prop) (hn : n ≤ 65536) (hcn : c ≤ n)
    (hF : Hid (Strs w a0 n F)) (hT : Hid (Strs w a1 n1 T)) (hK : Hid (Strs w a2 n2 K)) (hV : Hid (Strs w a3 n3 V)) (hb : Hid (Below w.heap.size w W))
    (hPf : Hid (Part W bf F (pickF T n1) (pickF K n2) (pickF V n3) n ff)) (hPl : Hid (Part W bl F (pickF T n1) (pickF K n2) (pickF V n3) c fl))
    (hPr : Hid (Part W br (fun j => F (c + j)) (fun j => pickF T n1 (c + j)) (fun j => pickF K n2 (c + j)) (fun j => pickF V n3 (c + j)) (n - c) fr))
    (C1 : Hid (Cnt W c1 F n)) (C2 : Hid (Cnt W c2 F c)) (C3 : Hid (Cnt W c3 (fun j => F (c + j)) (n - c)))
    (hK0 : ∀ a w', Code.wp Try.prog (restAt 49 body3) (bodyPost Try.prog Try.f3 (Yes w)) a w' → K0 a w') :
    Code.wp Try.prog (regAt 49 body3) (Exit.then K0 (bodyPost Try.prog Try.f3 (Yes w))) ⟨#[.string s0, .string s1, .string s2, .bool b3, .bool b4, .slice a0 n p0, .slice a1 n1 p1, .slice a2 n2 p2, .slice a3 n3 p3, .int .i64 c, c10, c11, c12, c13, c14, c15, c16, c17, c18, c19, .bool false, c21, .int .i64 n, c23, c24, c25, .map (some bf), .map (some bl), .map (some br), .map (some c1), .map (some c2), .map (some c3), c32, c33, c34, c35, c36, c37, c38, c39, c40, c41, c42, c43, c44, c45, c46, c47, c48, c49, c50, c51, c52, c53, c54, c55, c56, c57, c58, c59, c60, c61, c62, c63, c64, c65, c66, c67, c68, c69, c70, c71, c72, c73, c74, c75, c76, c77, c78, c79, c80, c81, c82, c83, c84, c85, c86, c87, c88, c89, c90, c91, c92, c93, c94, c95, c96, c97, c98, c99, c100, c101, c102, c103, c104, c105, c106, c107, c108, c109, c110, c111, c112, c113, c114, c115, c116, c117, c118, c119, c120, c121, c122, c123, c124, c125, c126, c127, c128, c129, c130, c131, c132, c133, c134, c135, c136, c137, c138, c139, c140, c141, c142, c143, c144, c145, c146, c147, c148, c149, c150, c151, c152, c153, c154, c155, c156, c157, c158, c159, c160, c161, c162, c163, c164, c165, c166, c167, c168, c169, c170, c171, c172, c173, c174, c175, c176, c177, c178, c179, c180, c181, c182, c183, c184, c185, c186, c187, c188, c189, c190, c191, c192, c193, c194, c195, c196, c197, c198, c199, c200, c201, c202, c203, c204, c205, c206, c207, c208, c209, c210, c211, c212, c213, c214, c215, c216, c217, c218, c219, c220, c221, c222, c223, c224, c225, c226, c227, c228, c229, c230, c231, c232, c233, c234, c235, c236, c237, c238, c239, c240, c241, c242, c243, c244, c245, c246, c247, c248, c249, c250, c251, c252, c253, c254, c255, c256, c257, c258, c259, c260, c261, c262, c263, c264, c265, c266, c267, c268, c269, c270, c271, c272, c273, c274, c275, c276, c277, c278, c279, c280, c281, c282, c283, c284, c285, c286, c287, c288, c289, c290, c291, c292, c293, c294, c295, c296, c297, c298, c299, c300, c301, c302, c303, c304, c305, c306, c307, c308, c309, c310, c311, c312, c313, c314, c315, c316, c317, c318, c319, c320, c321, c322, c323, c324, c325, c326, c327, c328, c329, c330, c331, c332, c333, c334, c335, c336, c337, c338, c339, c340, c341, c342, c343, c344, c345, c346, c347, c348, c349, c350, c351, c352, c353, c354, c355, c356, c357, c358, c359], []⟩ W := by
  conv => arg 2; whnf
  obtain ⟨R, hR⟩ : ∃ R, R = restAt 49 body3 := ⟨_, rfl⟩
  rw [← hR] at hK0
  conv at hR => rhs; whnf
  subst hR
  have hmm := @run_makeMap Try.prog
  go_upto_region 52 with fail
  clear hmm
  refine gen_world (fun X => Hid (Cnt X W.heap.size F 0) ∧ Hid (Cnt X (W.heap.size + 1) F 0) ∧ Hid (Cnt X (W.heap.size + 1 + 1) (fun j => F (c + j)) 0) ∧ Hid (Below W.heap.size W X)) (cnt3 W F F (fun j => F (c + j))) ?_
  rintro X0 ⟨U1, U2, U3, BX⟩
  obtain ⟨u3, hc3⟩ : ∃ x, x = W.heap.size + 1 + 1 := ⟨_, rfl⟩
  obtain ⟨u2, hc2⟩ : ∃ x, x = W.heap.size + 1 := ⟨_, rfl⟩
  obtain ⟨u1, hc1⟩ : ∃ x, x = W.heap.size := ⟨_, rfl⟩
  rw [← hc3] at U3 ⊢
  rw [← hc2] at U2 ⊢
  rw [← hc1] at U1 ⊢
  have d0 : W.heap.size ≤ u1 := by omega
  have d12 : u1 < u2 := by omega
  have d23 : u2 < u3 := by omega
  clear hc1 hc2 hc3
  have Cw1 : Hid (∀ X, Below W.heap.size W X → Cnt X c1 F n) := fun X h => (unhide C1).below h (unhide C1).lt
  have Cw2 : Hid (∀ X, Below W.heap.size W X → Cnt X c2 F c) := fun X h => (unhide C2).below h (unhide C2).lt
  have Cw3 : Hid (∀ X, Below W.heap.size W X → Cnt X c3 (fun j => F (c + j)) (n - c)) := fun X h => (unhide C3).below h (unhide C3).lt
  have Mf : Hid (∀ X, Below W.heap.size W X → OMap X bf n ff (dsz F n)) := fun X h => ((unhide hPf).below h).map
  have Ml : Hid (∀ X, Below W.heap.size W X → OMap X bl c fl (dsz F c)) := fun X h => ((unhide hPl).below h).map
  have Mr : Hid (∀ X, Below W.heap.size W X → OMap X br (n - c) fr (dsz (fun j => F (c + j)) (n - c))) := fun X h => ((unhide hPr).below h).map
  clear C1 C2 C3
  go_wp2
  go_loopw [37] (fun i wr => ∃ (k kl kr : Nat), k ≤ n ∧ i = .int .i64 k ∧ Hid (kl = min k c) ∧ Hid (kr = k - c) ∧ Hid (Cnt wr u1 F k) ∧ Hid (Cnt wr u2 F kl) ∧ Hid (Cnt wr u3 (fun j => F (c + j)) kr) ∧ Hid (Below W.heap.size W wr)) (fun i _ => n - (intOf i).toNat)
  case atStart => exact ⟨0, 0, 0, Nat.zero_le _, rfl, (Nat.zero_min _).symm, (Nat.zero_sub _).symm, U1, U2, U3, BX⟩
  case round =>
    obtain ⟨k, kl, kr, hk, rfl, hkl, hkr, D1, D2, D3, Bw⟩ := hrel
    have Bww : Hid (Below w.heap.size w wr) := (unhide hb).trans ((unhide Bw).mono (unhide hb).size)
    clear U1 U2 U3 BX
    by_cases hlt : k < n
    · obtain ⟨y, hy⟩ : ∃ y, Hid (y = pickF T n1 k) := ⟨_, rfl⟩
      obtain ⟨ak, hak⟩ : ∃ y, Hid (y = pickF K n2 k) := ⟨_, rfl⟩
      obtain ⟨av, hav⟩ : ∃ y, Hid (y = pickF V n3 k) := ⟨_, rfl⟩
      obtain ⟨x, hx⟩ : ∃ x, Hid (x = F k) := ⟨_, rfl⟩
      have hakz : ak.size ≤ maxLen := by rw [unhide hak]; exact pickF_size (unhide hK) k
      have E1 : Hid (Calls Try.prog 10 #[.slice a1 n1 p1, .int .i64 k] wr fun e w' => e = .returned (.string y) ∧ w' = wr) := by rw [unhide hy]; exact pick_any a1 n1 p1 k T wr ((unhide hT).below Bww)
      have E2 : Hid (Calls Try.prog 10 #[.slice a2 n2 p2, .int .i64 k] wr fun e w' => e = .returned (.string ak) ∧ w' = wr) := by rw [unhide hak]; exact pick_any a2 n2 p2 k K wr ((unhide hK).below Bww)
      have E3 : Hid (Calls Try.prog 10 #[.slice a3 n3 p3, .int .i64 k] wr fun e w' => e = .returned (.string av) ∧ w' = wr) := by rw [unhide hav]; exact pick_any a3 n3 p3 k V wr ((unhide hV).below Bww)
      obtain ⟨hsz, b, off, rfl, hc⟩ := unhide hF k hlt
      rw [← unhide hx] at hc hsz
      have hcw : wr.cell? ⟨b, off + k, none⟩ = some (.string x) := cell_below hc Bww
      clear hc
      obtain ⟨q1, hq1⟩ : ∃ q, Hid (q = cnt F k (kof x)) := ⟨_, rfl⟩
      obtain ⟨cc, hcc⟩ : ∃ q, Hid (q = cnt F n (kof x)) := ⟨_, rfl⟩
      obtain ⟨cl, hcl⟩ : ∃ q, Hid (q = cnt F c (kof x)) := ⟨_, rfl⟩
      obtain ⟨cr, hcr⟩ : ∃ q, Hid (q = cnt (fun j => F (c + j)) (n - c) (kof x)) := ⟨_, rfl⟩
      have hsum : Hid (cc = cl + cr) := by
        have := cnt_add F c (kof x) (n - c)
        rw [show c + (n - c) = n by omega] at this
        rw [unhide hcc, unhide hcl, unhide hcr]; exact this
      have hs1 : cc ≤ cl + cr := by rw [unhide hsum]; exact Nat.le_refl _
      have hs2 : cl + cr ≤ cc := by rw [unhide hsum]; exact Nat.le_refl _
      have hccb : cc ≤ 65536 := by have := cnt_le F n (kof x); rw [unhide hcc]; omega
      have V1 : Hid ((cf F k (kof x)).getD (.int .i64 0) = .int .i64 (q1 : Nat)) := by rw [unhide hq1]; exact cf_get _ _ _
      have Vc : Hid ((cf F n (kof x)).getD (.int .i64 0) = .int .i64 (cc : Nat)) := by rw [unhide hcc]; exact cf_get _ _ _
      have Vl : Hid ((cf F c (kof x)).getD (.int .i64 0) = .int .i64 (cl : Nat)) := by rw [unhide hcl]; exact cf_get _ _ _
      have Vr : Hid ((cf (fun j => F (c + j)) (n - c) (kof x)).getD (.int .i64 0) = .int .i64 (cr : Nat)) := by rw [unhide hcr]; exact cf_get _ _ _
      obtain ⟨hpc, g1, cap1, mm1, hf1, e0, e1, e2, hA1⟩ := Part.at' (unhide hPf) hlt (unhide hx).symm (unhide hy).symm (unhide hak).symm (unhide hav).symm (unhide hq1) (unhide hcc)
      have hf1 := hide hf1
      have e0 := hide e0
      have e1 := hide e1
      have e2 := hide e2
      have N1 : Hid (Cnt wr c1 F n) := unhide Cw1 wr Bw
      have N2 : Hid (Cnt wr c2 F c) := unhide Cw2 wr Bw
      have N3 : Hid (Cnt wr c3 (fun j => F (c + j)) (n - c)) := unhide Cw3 wr Bw
      have N4 : Hid (OMap wr bf n ff (dsz F n)) := unhide Mf wr Bw
      go_upto_region 64 with (first
        | (go_at_call_of 10 (Value.slice a1 n1 p1); refine (unhide E1).mono ?_; rintro e w' ⟨rfl, rfl⟩)
        | (go_at_call_of 10 (Value.slice a2 n2 p2); refine (unhide E2).mono ?_; rintro e w' ⟨rfl, rfl⟩)
        | (go_at_call_of 10 (Value.slice a3 n3 p3); refine (unhide E3).mono ?_; rintro e w' ⟨rfl, rfl⟩)
        | (refine at_dst 235 rfl ?_; refine wpList_look_ok (.tmp 233) (.tmp 234) 33 rfl (by rfl) 26 (.slice none 0 0) Try.underlying33 zero26 (unhide N4) rfl x rfl hsz (.slice (some ⟨g1, 0, none⟩) cc cap1) (unhide hf1) ?_)
        | (refine at_dst 245 rfl ?_; refine wpList_look (.tmp 243) (.tmp 244) 35 rfl (by rfl) 3 (.int .i64 0) Try.underlying35 zero3 (unhide N1) rfl x rfl hsz (.int .i64 (cc : Nat)) (unhide Vc) ?_)
        | (refine at_dst 253 rfl ?_; refine wpList_look (.tmp 251) (.tmp 252) 35 rfl (by rfl) 3 (.int .i64 0) Try.underlying35 zero3 (unhide N2) rfl x rfl hsz (.int .i64 (cl : Nat)) (unhide Vl) ?_)
        | (refine at_dst 256 rfl ?_; refine wpList_look (.tmp 254) (.tmp 255) 35 rfl (by rfl) 3 (.int .i64 0) Try.underlying35 zero3 (unhide N3) rfl x rfl hsz (.int .i64 (cr : Nat)) (unhide Vr) ?_)
        | (refine at_dst 262 rfl ?_; refine wpList_look (.tmp 260) (.tmp 261) 35 rfl (by rfl) 3 (.int .i64 0) Try.underlying35 zero3 (unhide D1) rfl x rfl hsz (.int .i64 (q1 : Nat)) (unhide V1) ?_)
        | (at_mapUpdate; refine wpList_mput rfl (.tmp 263) (.tmp 264) (.tmp 266) 35 rfl 3 Try.underlying35 (unhide D1) (by unfold maxLen; omega) rfl x rfl hsz (.int .i64 ((q1 : Int) + 1)) rfl ?_; intro w2 hm2 hg2))
      have S1 : Hid (Cnt w2 u1 F (k + 1)) := Cnt.step (by rw [unhide hx]) (unhide hq1) (by simp) hm2
      have B2 : Hid (Below W.heap.size W w2) := (unhide Bw).grown hg2 (unhide Bw).size (by intro j e; injection e with e; omega)
      have T2 : Hid (Cnt w2 u2 F kl) := (unhide D2).kept hg2 (by intro e; injection e with e; omega)
      have T3 : Hid (Cnt w2 u3 (fun j => F (c + j)) kr) := (unhide D3).kept hg2 (by intro e; injection e with e; omega)
      have f0 : w2.cell? ⟨g1, q1 * 3, none⟩ = some (.string x) := cell_below (unhide e0) (unhide B2)
      have f1 : w2.cell? ⟨g1, q1 * 3 + 1, none⟩ = some (.string y) := cell_below (unhide e1) (unhide B2)
      have f2 : w2.cell? ⟨g1, q1 * 3 + 2, none⟩ = some (.map mm1) := cell_below (unhide e2) (unhide B2)
      have A1 : Hid (Calls Try.prog 11 #[.agg #[.string x, .string y, .map mm1], .string x, .string y, .string ak, .string av] w2 fun e w' => e = .returned (.bool true) ∧ Below w2.heap.size w2 w') := sameEdge_any x y ak av mm1 w2 hakz (hA1.below (unhide B2))
      clear hm2 hg2 hcw D1 D2 D3 Bw Bww N1 N2 N3 N4 e0 e1 e2 hA1 E1 E2 E3 hf1
      go_upto_region 66 with (go_at_call 11; refine (unhide A1).mono ?_; rintro e w3 ⟨rfl, hB3⟩)
      have B3 : Hid (Below W.heap.size W w3) := (unhide B2).trans (hB3.mono (unhide B2).size)
      have S1 : Hid (Cnt w3 u1 F (k + 1)) := (unhide S1).below hB3 (unhide S1).lt
      have T2 : Hid (Cnt w3 u2 F kl) := (unhide T2).below hB3 (unhide T2).lt
      have T3 : Hid (Cnt w3 u3 (fun j => F (c + j)) kr) := (unhide T3).below hB3 (unhide T3).lt
      have N2 : Hid (Cnt w3 c2 F c) := unhide Cw2 w3 B3
      clear f0 f1 f2 A1 hB3 B2
      by_cases hlc : k < c
      · have e : kl = k := by have := unhide hkl; omega
        rw [e] at T2
        obtain ⟨hpl, g2, cap2, mm2, hf2, r0, r1, r2, hA2⟩ := Part.at' (unhide hPl) hlc (unhide hx).symm (unhide hy).symm (unhide hak).symm (unhide hav).symm (unhide hq1) (unhide hcl)
        have hf2 := hide hf2
        have r0 := hide r0
        have r1 := hide r1
        have r2 := hide r2
        have N5 : Hid (OMap w3 bl c fl (dsz F c)) := unhide Ml w3 B3
        go_upto_region 72 with (first
          | (refine at_dst 283 rfl ?_; refine wpList_look_ok (.tmp 281) (.tmp 282) 33 rfl (by rfl) 26 (.slice none 0 0) Try.underlying33 zero26 (unhide N5) rfl x rfl hsz (.slice (some ⟨g2, 0, none⟩) cl cap2) (unhide hf2) ?_)
          | (refine at_dst 293 rfl ?_; refine wpList_look (.tmp 291) (.tmp 292) 35 rfl (by rfl) 3 (.int .i64 0) Try.underlying35 zero3 (unhide N2) rfl x rfl hsz (.int .i64 (cl : Nat)) (unhide Vl) ?_)
          | (refine at_dst 298 rfl ?_; refine wpList_look (.tmp 296) (.tmp 297) 35 rfl (by rfl) 3 (.int .i64 0) Try.underlying35 zero3 (unhide T2) rfl x rfl hsz (.int .i64 (q1 : Nat)) (unhide V1) ?_)
          | (at_mapUpdate; refine wpList_mput rfl (.tmp 299) (.tmp 300) (.tmp 302) 35 rfl 3 Try.underlying35 (unhide T2) (by unfold maxLen; omega) rfl x rfl hsz (.int .i64 ((q1 : Int) + 1)) rfl ?_; intro w4 hm4 hg4))
        have S2 : Hid (Cnt w4 u2 F (k + 1)) := Cnt.step (by rw [unhide hx]) (unhide hq1) (by simp) hm4
        have B4 : Hid (Below W.heap.size W w4) := (unhide B3).grown hg4 (unhide B3).size (by intro j e; injection e with e; omega)
        have S1' : Hid (Cnt w4 u1 F (k + 1)) := (unhide S1).kept hg4 (by intro e; injection e with e; omega)
        have S3 : Hid (Cnt w4 u3 (fun j => F (c + j)) kr) := (unhide T3).kept hg4 (by intro e; injection e with e; omega)
        have f0 : w4.cell? ⟨g2, q1 * 3, none⟩ = some (.string x) := cell_below (unhide r0) (unhide B4)
        have f1 : w4.cell? ⟨g2, q1 * 3 + 1, none⟩ = some (.string y) := cell_below (unhide r1) (unhide B4)
        have f2 : w4.cell? ⟨g2, q1 * 3 + 2, none⟩ = some (.map mm2) := cell_below (unhide r2) (unhide B4)
        have A2 : Hid (Calls Try.prog 11 #[.agg #[.string x, .string y, .map mm2], .string x, .string y, .string ak, .string av] w4 fun e w' => e = .returned (.bool true) ∧ Below w4.heap.size w4 w') := sameEdge_any x y ak av mm2 w4 hakz (hA2.below (unhide B4))
        clear hm4 hg4 T2 T3 N2 N5 S1 r0 r1 r2 hA2 hf2
        go_wp2_with (go_at_call 11; refine (unhide A2).mono ?_; rintro e w5 ⟨rfl, hB5⟩)
        have B5 : Hid (Below W.heap.size W w5) := (unhide B4).trans (hB5.mono (unhide B4).size)
        have R1 : Hid (Cnt w5 u1 F (k + 1)) := (unhide S1').below hB5 (unhide S1').lt
        have R2 : Hid (Cnt w5 u2 F (k + 1)) := (unhide S2).below hB5 (unhide S2).lt
        have R3 : Hid (Cnt w5 u3 (fun j => F (c + j)) kr) := (unhide S3).below hB5 (unhide S3).lt
        clear f0 f1 f2 A2 hB5
        go_roundw
        case rel => exact ⟨k + 1, k + 1, kr, by omega, by go_num, (show k + 1 = min (k + 1) c by omega), (show kr = k + 1 - c by have := unhide hkr; omega), R1, R2, R3, B5⟩
        case measure => simp [intOf]; omega
      · have hkr' : kr < n - c := by have := unhide hkr; omega
        have hck : c + kr = k := by have := unhide hkr; omega
        obtain ⟨q3, hq3⟩ : ∃ q, Hid (q = cnt (fun j => F (c + j)) kr (kof x)) := ⟨_, rfl⟩
        have hq3b : q3 ≤ kr := by have := cnt_le (fun j => F (c + j)) kr (kof x); rw [unhide hq3]; exact this
        have hsq : Hid (q1 = cl + q3) := by
          have := cnt_add F c (kof x) kr
          rw [hck] at this
          rw [unhide hq1, unhide hcl, unhide hq3]; exact this
        have hsq1 : q1 ≤ cl + q3 := by rw [unhide hsq]; exact Nat.le_refl _
        have hsq2 : cl + q3 ≤ q1 := by rw [unhide hsq]; exact Nat.le_refl _
        have V3 : Hid ((cf (fun j => F (c + j)) kr (kof x)).getD (.int .i64 0) = .int .i64 (q3 : Nat)) := by rw [unhide hq3]; exact cf_get _ _ _
        obtain ⟨hpr, g3, cap3, mm3, hf3, r0, r1, r2, hA3⟩ := Part.at' (xf := x) (xt := y) (xk := ak) (xv := av) (unhide hPr) hkr' (by show F (c + kr) = x; rw [hck]; exact (unhide hx).symm) (by show pickF T n1 (c + kr) = y; rw [hck]; exact (unhide hy).symm) (by show pickF K n2 (c + kr) = ak; rw [hck]; exact (unhide hak).symm) (by show pickF V n3 (c + kr) = av; rw [hck]; exact (unhide hav).symm) (unhide hq3) (unhide hcr)
        have hf3 := hide hf3
        have r0 := hide r0
        have r1 := hide r1
        have r2 := hide r2
        have N3 : Hid (Cnt w3 c3 (fun j => F (c + j)) (n - c)) := unhide Cw3 w3 B3
        have N5 : Hid (OMap w3 br (n - c) fr (dsz (fun j => F (c + j)) (n - c))) := unhide Mr w3 B3
        clear hck
        go_upto_region 79 with (first
          | (refine at_dst 321 rfl ?_; refine wpList_look_ok (.tmp 319) (.tmp 320) 33 rfl (by rfl) 26 (.slice none 0 0) Try.underlying33 zero26 (unhide N5) rfl x rfl hsz (.slice (some ⟨g3, 0, none⟩) cr cap3) (unhide hf3) ?_)
          | (refine at_dst 331 rfl ?_; refine wpList_look (.tmp 329) (.tmp 330) 35 rfl (by rfl) 3 (.int .i64 0) Try.underlying35 zero3 (unhide N3) rfl x rfl hsz (.int .i64 (cr : Nat)) (unhide Vr) ?_)
          | (refine at_dst 336 rfl ?_; refine wpList_look (.tmp 334) (.tmp 335) 35 rfl (by rfl) 3 (.int .i64 0) Try.underlying35 zero3 (unhide T3) rfl x rfl hsz (.int .i64 (q3 : Nat)) (unhide V3) ?_)
          | (at_mapUpdate; refine wpList_mput rfl (.tmp 337) (.tmp 338) (.tmp 340) 35 rfl 3 Try.underlying35 (unhide T3) (by unfold maxLen; omega) rfl x rfl hsz (.int .i64 ((q3 : Int) + 1)) rfl ?_; intro w4 hm4 hg4))
        have S3 : Hid (Cnt w4 u3 (fun j => F (c + j)) (kr + 1)) := Cnt.step (by show kof (F (c + kr)) = kof x; rw [unhide hx, unhide hkr, show c + (k - c) = k by omega]) (unhide hq3) (by simp) hm4
        have B4 : Hid (Below W.heap.size W w4) := (unhide B3).grown hg4 (unhide B3).size (by intro j e; injection e with e; omega)
        have S1' : Hid (Cnt w4 u1 F (k + 1)) := (unhide S1).kept hg4 (by intro e; injection e with e; omega)
        have S2 : Hid (Cnt w4 u2 F kl) := (unhide T2).kept hg4 (by intro e; injection e with e; omega)
        have N6 : Hid (Cnt w4 c2 F c) := unhide Cw2 w4 B4
        have f0 : w4.cell? ⟨g3, q3 * 3, none⟩ = some (.string x) := cell_below (unhide r0) (unhide B4)
        have f1 : w4.cell? ⟨g3, q3 * 3 + 1, none⟩ = some (.string y) := cell_below (unhide r1) (unhide B4)
        have f2 : w4.cell? ⟨g3, q3 * 3 + 2, none⟩ = some (.map mm3) := cell_below (unhide r2) (unhide B4)
        have A3 : Hid (Calls Try.prog 11 #[.agg #[.string x, .string y, .map mm3], .string x, .string y, .string ak, .string av] w4 fun e w' => e = .returned (.bool true) ∧ Below w4.heap.size w4 w') := sameEdge_any x y ak av mm3 w4 hakz (hA3.below (unhide B4))
        clear hm4 hg4 T2 T3 N2 N3 N5 S1 r0 r1 r2 hA3 hf3
        go_wp2_with (first
          | (refine at_dst 343 rfl ?_; refine wpList_look (.tmp 341) (.tmp 342) 35 rfl (by rfl) 3 (.int .i64 0) Try.underlying35 zero3 (unhide N6) rfl x rfl hsz (.int .i64 (cl : Nat)) (unhide Vl) ?_)
          | (go_at_call 11; refine (unhide A3).mono ?_; rintro e w5 ⟨rfl, hB5⟩))
        have B5 : Hid (Below W.heap.size W w5) := (unhide B4).trans (hB5.mono (unhide B4).size)
        have R1 : Hid (Cnt w5 u1 F (k + 1)) := (unhide S1').below hB5 (unhide S1').lt
        have R2 : Hid (Cnt w5 u2 F kl) := (unhide S2).below hB5 (unhide S2).lt
        have R3 : Hid (Cnt w5 u3 (fun j => F (c + j)) (kr + 1)) := (unhide S3).below hB5 (unhide S3).lt
        clear f0 f1 f2 A3 hB5
        go_roundw
        case rel => exact ⟨k + 1, kl, kr + 1, by omega, by go_num, (show kl = min (k + 1) c by have := unhide hkl; omega), (show kr + 1 = k + 1 - c by have := unhide hkr; omega), R1, R2, R3, B5⟩
        case measure => simp [intOf]; omega
    · go_wp2
      go_ret
      exact ⟨rfl, Bww⟩

end Go.Proofs.Qxb6631238a
