/-
  THE MAIN WALK of FnOutInsertOneEdgeAnywhere: the edges ahead of the place: seat b6631238a.
-/
import Derived.Test.Qxb6631238aIns42
namespace Go.Proofs.Qxb6631238a
open Go.RowKit Go.Maps

set_option maxRecDepth 100000 in
set_option maxHeartbeats 8000000 in
theorem tailI36 (s0 : ByteArray) (b1 : Bool) (a0 a1 a2 a3 : Option Addr) (n n1 n2 n3 p0 p1 p2 p3 : Nat) (nf nt nk nv : ByteArray) (c : Nat) (F T K V : Nat → ByteArray) (w : World)  {c11 c12 c13 c14 c15 c16 c17 c18 c19 c20 c21 c23 c25 c26 c27 c28 c29 c30 c31 c32 c33 c34 c35 c36 c37 c38 c39 c40 c41 c42 c43 c44 c45 c46 c47 c48 c49 c50 c51 c52 c53 c54 c55 c56 c57 c58 c59 c60 c61 c62 c63 c64 c65 c66 c67 c68 c69 c70 c71 c72 c73 c74 c75 c76 c77 c78 c79 c80 c81 c82 c83 c84 c85 c86 c87 c88 c89 c90 c91 c92 c93 c94 c95 c96 c97 c98 c99 c100 c101 c102 c103 c104 c105 c106 c107 c108 c109 c110 c111 c112 c113 c114 c115 c116 c117 c118 c119 c120 c121 c122 c123 c124 c125 c126 c127 c128 c129 c130 c131 c132 c133 c134 c135 c136 c137 c138 c139 c140 c141 c142 c143 c144 c145 c146 c147 c148 c149 c150 c151 c152 c153 c154 c155 c156 c157 c158 c159 c160 c161 c162 c163 c164 c165 c166 c167 c168 c169 c170 c171 c172 c173 c174 c175 c176 c177 c178 c179 c180 c181 c182 c183 c184 c185 c186 c187 c188 c189 c190 c191 c192 c193 c194 c195 c196 c197 c198 c199 c200 c201 c202 c203 c204 c205 c206 c207 c208 c209 c210 c211 c212 c213 c214 c215 c216 c217 c218 c219 c220 c221 c222 c223 c224 c225 c226 c227 c228 c229 c230 c231 c232 c233 c234 c235 c236 c237 c238 c239 c240 c241 c242 c243 c244 c245 c246 c247 c248 c249 c250 c251 c252 c253 c254 c255 c256 c257 c258 c259 c260 c261 c262 c263 c264 c265 c266 c267 c268 c269 c270 c271 c272 c273 c274 c275 c276 c277 c278 c279 c280 c281 c282 c283 c284 c285 c286 c287 c288 c289 c290 c291 c292 c293 c294 c295 c296 c297 c298 c299 c300 c301 c302 c303 c304 c305 c306 c307 c308 c309 c310 c311 c312 c313 c314 c315 c316 c317 c318 c319 c320 c321 c322 c323 c324 c325 c326 c327 c328 c329 c330 c331 c332 c333 c334 c335 c336 c337 c338 c339 c340 c341 c342 c343 c344 c345 c346 c347 c348 c349 c350 c351 c352 c353 c354 c355 c356 c357 c358 c359 c360 c361 c362 c363 c364 c365 c366 c367 c368 c369 c370 c371 c372 : Value} (K0 : Act → World → Prop) (hn : n ≤ 65536) (hcn : c ≤ n) (zf : nf.size ≤ maxLen) (zk : nk.size ≤ maxLen)
    (hF : Hid (Strs w a0 n F)) (hT : Hid (Strs w a1 n1 T)) (hK : Hid (Strs w a2 n2 K)) (hV : Hid (Strs w a3 n3 V))
    (hK0 : ∀ a w', Code.wp Try.prog (restAt 36 body4) (bodyPost Try.prog Try.f4 (Yes w)) a w' → K0 a w') :
    Code.wp Try.prog (regAt 36 body4) (Exit.then K0 (bodyPost Try.prog Try.f4 (Yes w))) ⟨#[.string s0, .bool b1, .slice a0 n p0, .slice a1 n1 p1, .slice a2 n2 p2, .slice a3 n3 p3, .string nf, .string nt, .string nk, .string nv, .int .i64 c, c11, c12, c13, c14, c15, c16, c17, c18, c19, c20, c21, .bool false, c23, .int .i64 n, c25, c26, c27, c28, c29, c30, c31, c32, c33, c34, c35, c36, c37, c38, c39, c40, c41, c42, c43, c44, c45, c46, c47, c48, c49, c50, c51, c52, c53, c54, c55, c56, c57, c58, c59, c60, c61, c62, c63, c64, c65, c66, c67, c68, c69, c70, c71, c72, c73, c74, c75, c76, c77, c78, c79, c80, c81, c82, c83, c84, c85, c86, c87, c88, c89, c90, c91, c92, c93, c94, c95, c96, c97, c98, c99, c100, c101, c102, c103, c104, c105, c106, c107, c108, c109, c110, c111, c112, c113, c114, c115, c116, c117, c118, c119, c120, c121, c122, c123, c124, c125, c126, c127, c128, c129, c130, c131, c132, c133, c134, c135, c136, c137, c138, c139, c140, c141, c142, c143, c144, c145, c146, c147, c148, c149, c150, c151, c152, c153, c154, c155, c156, c157, c158, c159, c160, c161, c162, c163, c164, c165, c166, c167, c168, c169, c170, c171, c172, c173, c174, c175, c176, c177, c178, c179, c180, c181, c182, c183, c184, c185, c186, c187, c188, c189, c190, c191, c192, c193, c194, c195, c196, c197, c198, c199, c200, c201, c202, c203, c204, c205, c206, c207, c208, c209, c210, c211, c212, c213, c214, c215, c216, c217, c218, c219, c220, c221, c222, c223, c224, c225, c226, c227, c228, c229, c230, c231, c232, c233, c234, c235, c236, c237, c238, c239, c240, c241, c242, c243, c244, c245, c246, c247, c248, c249, c250, c251, c252, c253, c254, c255, c256, c257, c258, c259, c260, c261, c262, c263, c264, c265, c266, c267, c268, c269, c270, c271, c272, c273, c274, c275, c276, c277, c278, c279, c280, c281, c282, c283, c284, c285, c286, c287, c288, c289, c290, c291, c292, c293, c294, c295, c296, c297, c298, c299, c300, c301, c302, c303, c304, c305, c306, c307, c308, c309, c310, c311, c312, c313, c314, c315, c316, c317, c318, c319, c320, c321, c322, c323, c324, c325, c326, c327, c328, c329, c330, c331, c332, c333, c334, c335, c336, c337, c338, c339, c340, c341, c342, c343, c344, c345, c346, c347, c348, c349, c350, c351, c352, c353, c354, c355, c356, c357, c358, c359, c360, c361, c362, c363, c364, c365, c366, c367, c368, c369, c370, c371, c372], []⟩ w := by
  conv => arg 2; whnf
  obtain ⟨R, hR⟩ : ∃ R, R = restAt 36 body4 := ⟨_, rfl⟩
  rw [← hR] at hK0
  conv at hR => rhs; whnf
  subst hR
  obtain ⟨i0, hi0, hz0, hz1, hz2⟩ := info_parts info40
  have E80 : Hid (∀ hi W, Below w.heap.size w W → hi ≤ n → _) := fun hi W hb hh => buildG_any a0 a1 a2 a3 n n1 n2 n3 p0 p1 p2 p3 F T K V 0 hi w W hb (unhide hF) (unhide hT) (unhide hK) (unhide hV) (Nat.zero_le _) hh hn
  simp only [Nat.zero_add, Nat.sub_zero] at E80
  go_upto_region 37 with (go_at_call 8; refine (unhide E80 n w (Below.refl _ _) (Nat.le_refl _)).mono ?_; rintro e w1 ⟨g1, cap1, rfl, hb1, hB1, hG1⟩)
  generalize w1.heap.size = gp1 at hG1 ⊢
  refine gen_world (fun W => Hid (Graph W gp1 F (pickF T n1) (pickF K n2) (pickF V n3) n) ∧ Hid (Below w.heap.size w W)) ⟨hG1 _ _ _ _ _ _ _, hb1.alloc hb1.size _⟩ ?_
  clear hG1 hB1 hb1 E80
  rintro W1 ⟨G1, B1⟩
  have hF1 : Hid (Strs W1 a0 n F) := (unhide hF).below (unhide B1)
  have hT1 : Hid (Strs W1 a1 n1 T) := (unhide hT).below (unhide B1)
  have hK1 : Hid (Strs W1 a2 n2 K) := (unhide hK).below (unhide B1)
  have hV1 : Hid (Strs W1 a3 n3 V) := (unhide hV).below (unhide B1)
  go_upto_region 38 with (at_make; refine wpList_make_own _ rfl _ _ 26 rfl W1.heap.size 40 i0 _ 3 Try.underlying26 hi0 hz0 hz1 .i64 .i64 _ (n + 1) rfl rfl (by omega) (by rw [hz2]; omega) (by unfold maxLen; omega) (Nat.le_refl _) ?_; intro w2 hown2 hgrow2)
  have hb2 : Below W1.heap.size W1 w2 := (Below.refl _ _).grown hgrow2 (Nat.le_refl _) (by intro k e; cases e)
  clear hgrow2
  go_wp2
  go_loopw [26, 27] (fun v i wr => ∃ (p : Nat) (ms : Nat → Option Nat), p ≤ c ∧ i = .int .i64 p ∧ wr.ownsRow W1.heap.size 40 3 v p (ecells (ins F c nf) (ins (pickF T n1) c nt) ms p) ∧ v ≠ .slice none 0 0 ∧
      (∀ j, j < p → Attr wr (ms j) ((ins (pickF K n2) c nk) j) ((ins (pickF V n3) c nv) j)) ∧ Below W1.heap.size W1 wr) (fun _ i _ => c - (intOf i).toNat)
  case atStart => exact ⟨0, fun _ => none, Nat.zero_le _, rfl, hown2, by simp, fun j hj => by omega, hb2⟩
  case round =>
    obtain ⟨p, ms, hk, rfl, hown, hnn0, hat, hbw⟩ := hrel
    clear hown2 hb2
    by_cases hlt : p < c
    · have hpc : p < c := hlt
      obtain ⟨hsz, b, off, rfl, hc⟩ := unhide hF1 p (by omega)
      obtain ⟨x1, hx1⟩ : ∃ x, Hid (x = pickF T n1 p) := ⟨_, rfl⟩
      obtain ⟨x2, hx2⟩ : ∃ x, Hid (x = pickF K n2 p) := ⟨_, rfl⟩
      obtain ⟨x3, hx3⟩ : ∃ x, Hid (x = pickF V n3 p) := ⟨_, rfl⟩
      obtain ⟨x0, hx0⟩ : ∃ x, Hid (x = F p) := ⟨_, rfl⟩
      have hcell : ∀ W, Below W1.heap.size W1 W → W.cell? ⟨b, off + p, none⟩ = some (.string x0) := fun W hb => by rw [unhide hx0]; exact cell_below hc hb
      have hx2z : x2.size ≤ maxLen := by rw [unhide hx2]; exact pickF_size (unhide hK) p
      have hlk : (p : Int) < n := by omega
      have E1 : Hid (∀ W, Below W1.heap.size W1 W → Calls Try.prog 10 #[.slice a1 n1 p1, .int .i64 p] W fun e w' => e = .returned (.string x1) ∧ w' = W) := fun W hb => by rw [unhide hx1]; exact pick_any a1 n1 p1 p T W ((unhide hT1).below hb)
      have E2 : Hid (∀ W, Below W1.heap.size W1 W → Calls Try.prog 10 #[.slice a2 n2 p2, .int .i64 p] W fun e w' => e = .returned (.string x2) ∧ w' = W) := fun W hb => by rw [unhide hx2]; exact pick_any a2 n2 p2 p K W ((unhide hK1).below hb)
      have E3 : Hid (∀ W, Below W1.heap.size W1 W → Calls Try.prog 10 #[.slice a3 n3 p3, .int .i64 p] W fun e w' => e = .returned (.string x3) ∧ w' = W) := fun W hb => by rw [unhide hx3]; exact pick_any a3 n3 p3 p V W ((unhide hV1).below hb)
      have E4 : Hid (∀ W, Calls Try.prog 13 #[.string x0, .string x1, .string x2, .string x3] W fun e w' => ∃ m, e = .returned (.agg #[.string x0, .string x1, .map m]) ∧ Attr w' m x2 x3 ∧ Below W.heap.size W w') := fun W => makeEdge_any _ _ _ _ W hx2z
      clear hc
      go_upto_region 41 with fail
      go_region_held3 (fun W => Below W1.heap.size W1 W)
        (first | assumption | exact Below.drew (by assumption) | exact Below.trans (by assumption) (Below.mono (by assumption) (Below.size (by assumption))) | exact Below.alloc (by assumption) (Below.size (by assumption)) _ | exact Below.grown (by assumption) (by assumption) (Below.size (by assumption)) (ownsRow_base hown))
        (first
        | (refine step_append_own rfl (.tmp 153) (.tmp 168) 26 rfl W1.heap.size 40 i0 _ 3 40 Try.underlying26 hi0 hz0 hz1 hz2 rfl (by decide) _ p _ rfl ((ownsRow_below (w := wr.drew) hown hbm).alloc _) ⟨_, 0, none⟩ 1 1 [.string x0, .string x1, .map m] rfl rfl (cell_three_new _ _ _ _ _) (by simp [Value.oneCell']) (by unfold maxLen; omega) (by omega) (Nat.le_trans (Below.size (by assumption)) (Nat.le_refl _)) ?_; intro v' w'' hown' hgrow' hloc)
        | (go_at_call_of 10 (Value.slice a1 n1 p1); refine (unhide E1 _ (by assumption)).mono ?_; rintro e w' ⟨rfl, rfl⟩)
        | (go_at_call_of 10 (Value.slice a2 n2 p2); refine (unhide E2 _ (by assumption)).mono ?_; rintro e w' ⟨rfl, rfl⟩)
        | (go_at_call_of 10 (Value.slice a3 n3 p3); refine (unhide E3 _ (by assumption)).mono ?_; rintro e w' ⟨rfl, rfl⟩)
        | (go_at_call 13; refine (unhide E4 _).mono ?_; rintro e w' ⟨m, rfl, hatt, hbm⟩))
      have R := build_step2 (F := (ins F c nf)) (T := (ins (pickF T n1) c nt)) (K := (ins (pickF K n2) c nk)) (V := (ins (pickF V n3) c nv)) (by rw [ins_lt hpc]; exact unhide hx0) (by rw [ins_lt hpc]; exact unhide hx1) (by rw [ins_lt hpc]; exact unhide hx2) (by rw [ins_lt hpc]; exact unhide hx3) hown hat hatt (((Below.refl wr.heap.size wr).drew).trans hbm) hgrow' hown'
      have hbl : Below W1.heap.size W1 w'' := by assumption
      clear hnn0
      clear hown hat hatt hbm hgrow' hown' hloc E1 E2 E3 E4
      go_wp2
      go_roundw
      case rel => exact ⟨p + 1, _, by omega, by go_num, R.1, ownsRow_pos R.1, R.2, hbl⟩
      case measure => simp [intOf]; omega
    · obtain rfl : p = c := by omega
      go_upto_region 42 with fail
      refine tailI42 s0 b1 a0 a1 a2 a3 n n1 n2 n3 p0 p1 p2 p3 nf nt nk nv p F T K V w gp1 _ ms W1 wr _ hn hcn zf zk hF hT hK hV B1 G1 hown hat hbw ?_
      assumption

end Go.Proofs.Qxb6631238a
