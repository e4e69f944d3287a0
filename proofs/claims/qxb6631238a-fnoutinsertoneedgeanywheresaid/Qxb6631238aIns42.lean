/-
  THE MAIN WALK of FnOutInsertOneEdgeAnywhere: the one put in, the rest, both Outs: seat b6631238a.
-/
import Derived.Test.Qxb6631238aIns50
namespace Go.Proofs.Qxb6631238a
open Go.RowKit Go.Maps

set_option maxRecDepth 100000 in
set_option maxHeartbeats 8000000 in
theorem tailI42 (s0 : ByteArray) (b1 : Bool) (a0 a1 a2 a3 : Option Addr) (n n1 n2 n3 p0 p1 p2 p3 : Nat) (nf nt nk nv : ByteArray) (c : Nat) (F T K V : Nat → ByteArray) (w : World) (gp1 : Nat) (v0 : Value) (ms0 : Nat → Option Nat) (W1 W : World) {c11 c12 c13 c14 c15 c16 c17 c18 c19 c20 c21 c23 c27 c28 c29 c30 c31 c32 c33 c34 c35 c36 c37 c38 c39 c40 c41 c42 c43 c44 c45 c46 c47 c48 c49 c50 c51 c52 c53 c54 c55 c56 c57 c58 c59 c60 c61 c62 c63 c64 c65 c66 c67 c68 c69 c70 c71 c72 c73 c74 c75 c76 c77 c78 c79 c80 c81 c82 c83 c84 c85 c86 c87 c88 c89 c90 c91 c92 c93 c94 c95 c96 c97 c98 c99 c100 c101 c102 c103 c104 c105 c106 c107 c108 c109 c110 c111 c112 c113 c114 c115 c116 c117 c118 c119 c120 c121 c122 c123 c124 c125 c126 c127 c128 c129 c130 c131 c132 c133 c134 c135 c136 c137 c138 c139 c140 c141 c142 c143 c144 c145 c146 c147 c148 c149 c150 c151 c152 c153 c154 c155 c156 c157 c158 c159 c160 c161 c162 c163 c164 c165 c166 c167 c168 c169 c170 c171 c172 c173 c174 c175 c176 c177 c178 c179 c180 c181 c182 c183 c184 c185 c186 c187 c188 c189 c190 c191 c192 c193 c194 c195 c196 c197 c198 c199 c200 c201 c202 c203 c204 c205 c206 c207 c208 c209 c210 c211 c212 c213 c214 c215 c216 c217 c218 c219 c220 c221 c222 c223 c224 c225 c226 c227 c228 c229 c230 c231 c232 c233 c234 c235 c236 c237 c238 c239 c240 c241 c242 c243 c244 c245 c246 c247 c248 c249 c250 c251 c252 c253 c254 c255 c256 c257 c258 c259 c260 c261 c262 c263 c264 c265 c266 c267 c268 c269 c270 c271 c272 c273 c274 c275 c276 c277 c278 c279 c280 c281 c282 c283 c284 c285 c286 c287 c288 c289 c290 c291 c292 c293 c294 c295 c296 c297 c298 c299 c300 c301 c302 c303 c304 c305 c306 c307 c308 c309 c310 c311 c312 c313 c314 c315 c316 c317 c318 c319 c320 c321 c322 c323 c324 c325 c326 c327 c328 c329 c330 c331 c332 c333 c334 c335 c336 c337 c338 c339 c340 c341 c342 c343 c344 c345 c346 c347 c348 c349 c350 c351 c352 c353 c354 c355 c356 c357 c358 c359 c360 c361 c362 c363 c364 c365 c366 c367 c368 c369 c370 c371 c372 : Value} (K0 : Act → World → Prop) (hn : n ≤ 65536) (hcn : c ≤ n) (zf : nf.size ≤ maxLen) (zk : nk.size ≤ maxLen)
    (hF : Hid (Strs w a0 n F)) (hT : Hid (Strs w a1 n1 T)) (hK : Hid (Strs w a2 n2 K)) (hV : Hid (Strs w a3 n3 V)) (B1 : Hid (Below w.heap.size w W1))
    (G1 : Hid (Graph W1 gp1 F (pickF T n1) (pickF K n2) (pickF V n3) n)) (hown0 : W.ownsRow W1.heap.size 40 3 v0 c (ecells (ins F c nf) (ins (pickF T n1) c nt) ms0 c))
    (hat0 : ∀ j, j < c → Attr W (ms0 j) (ins (pickF K n2) c nk j) (ins (pickF V n3) c nv j)) (hbW : Below W1.heap.size W1 W)
    (hK0 : ∀ a w', Code.wp Try.prog (restAt 42 body4) (bodyPost Try.prog Try.f4 (Yes w)) a w' → K0 a w') :
    Code.wp Try.prog (regAt 42 body4) (Exit.then K0 (bodyPost Try.prog Try.f4 (Yes w))) ⟨#[.string s0, .bool b1, .slice a0 n p0, .slice a1 n1 p1, .slice a2 n2 p2, .slice a3 n3 p3, .string nf, .string nt, .string nk, .string nv, .int .i64 c, c11, c12, c13, c14, c15, c16, c17, c18, c19, c20, c21, .bool false, c23, .int .i64 n, .pointer (some ⟨gp1, 0, none⟩), v0, c27, c28, c29, c30, c31, c32, c33, c34, c35, c36, c37, c38, c39, c40, c41, c42, c43, c44, c45, c46, c47, c48, c49, c50, c51, c52, c53, c54, c55, c56, c57, c58, c59, c60, c61, c62, c63, c64, c65, c66, c67, c68, c69, c70, c71, c72, c73, c74, c75, c76, c77, c78, c79, c80, c81, c82, c83, c84, c85, c86, c87, c88, c89, c90, c91, c92, c93, c94, c95, c96, c97, c98, c99, c100, c101, c102, c103, c104, c105, c106, c107, c108, c109, c110, c111, c112, c113, c114, c115, c116, c117, c118, c119, c120, c121, c122, c123, c124, c125, c126, c127, c128, c129, c130, c131, c132, c133, c134, c135, c136, c137, c138, c139, c140, c141, c142, c143, c144, c145, c146, c147, c148, c149, c150, c151, c152, c153, c154, c155, c156, c157, c158, c159, c160, c161, c162, c163, c164, c165, c166, c167, c168, c169, c170, c171, c172, c173, c174, c175, c176, c177, c178, c179, c180, c181, c182, c183, c184, c185, c186, c187, c188, c189, c190, c191, c192, c193, c194, c195, c196, c197, c198, c199, c200, c201, c202, c203, c204, c205, c206, c207, c208, c209, c210, c211, c212, c213, c214, c215, c216, c217, c218, c219, c220, c221, c222, c223, c224, c225, c226, c227, c228, c229, c230, c231, c232, c233, c234, c235, c236, c237, c238, c239, c240, c241, c242, c243, c244, c245, c246, c247, c248, c249, c250, c251, c252, c253, c254, c255, c256, c257, c258, c259, c260, c261, c262, c263, c264, c265, c266, c267, c268, c269, c270, c271, c272, c273, c274, c275, c276, c277, c278, c279, c280, c281, c282, c283, c284, c285, c286, c287, c288, c289, c290, c291, c292, c293, c294, c295, c296, c297, c298, c299, c300, c301, c302, c303, c304, c305, c306, c307, c308, c309, c310, c311, c312, c313, c314, c315, c316, c317, c318, c319, c320, c321, c322, c323, c324, c325, c326, c327, c328, c329, c330, c331, c332, c333, c334, c335, c336, c337, c338, c339, c340, c341, c342, c343, c344, c345, c346, c347, c348, c349, c350, c351, c352, c353, c354, c355, c356, c357, c358, c359, c360, c361, c362, c363, c364, c365, c366, c367, c368, c369, c370, c371, c372], []⟩ W := by
  conv => arg 2; whnf
  obtain ⟨R, hR⟩ : ∃ R, R = restAt 42 body4 := ⟨_, rfl⟩
  rw [← hR] at hK0
  conv at hR => rhs; whnf
  subst hR
  obtain ⟨i0, hi0, hz0, hz1, hz2⟩ := info_parts info40
  have hF1 : Hid (Strs W1 a0 n F) := (unhide hF).below (unhide B1)
  have hT1 : Hid (Strs W1 a1 n1 T) := (unhide hT).below (unhide B1)
  have hK1 : Hid (Strs W1 a2 n2 K) := (unhide hK).below (unhide B1)
  have hV1 : Hid (Strs W1 a3 n3 V) := (unhide hV).below (unhide B1)
  have hFz : Hid (∀ j, j < n → (F j).size ≤ maxLen) := fun j hj => (unhide hF j hj).1
  have E4 : Hid (∀ W, Calls Try.prog 13 #[.string nf, .string nt, .string nk, .string nv] W fun e w' => ∃ m, e = .returned (.agg #[.string nf, .string nt, .map m]) ∧ Attr w' m nk nv ∧ Below W.heap.size W w') := fun W => makeEdge_any _ _ _ _ W zk
  go_wp2_with (first
    | (go_at_call 13; refine (unhide E4 _).mono ?_; rintro e w' ⟨m, rfl, hatt, hbm⟩)
    | (refine at_dst 177 rfl ?_; refine wpList_append_own_at _ rfl (.tmp 170) (.tmp 176) 26 rfl W1.heap.size 40 i0 _ 3 40 Try.underlying26 hi0 hz0 hz1 hz2 rfl (by decide) _ c _ rfl ((ownsRow_below hown0 hbm).alloc _) ⟨_, 0, none⟩ 1 1 [.string nf, .string nt, .map m] rfl rfl (cell_three_new _ _ _ _ _) (by simp [Value.oneCell']) (by unfold maxLen; omega) (by omega) (Nat.le_trans (Nat.le_trans hbW.size hbm.size) (Nat.le_of_lt (by simp))) ?_; intro v' w'' hown' hgrow' _ hloc))
  have R := build_step2 (F := (ins F c nf)) (T := (ins (pickF T n1) c nt)) (K := (ins (pickF K n2) c nk)) (V := (ins (pickF V n3) c nv)) (ins_at _ _ _).symm (ins_at _ _ _).symm (ins_at _ _ _).symm (ins_at _ _ _).symm hown0 hat0 hatt hbm hgrow' hown'
  have hb2 : Below W1.heap.size W1 w'' := ((hbW.trans (hbm.mono hbW.size)).alloc (Nat.le_trans hbW.size hbm.size) _).grown hgrow' (Nat.le_trans (Nat.le_trans hbW.size hbm.size) (Nat.le_of_lt (by simp))) (ownsRow_base hown0)
  clear hown0 hat0 hbW hatt hbm hgrow' hown' hloc E4
  go_loopw [26, 28] (fun v i wr => ∃ (p : Nat) (ms : Nat → Option Nat), c ≤ p ∧ p ≤ n ∧ i = .int .i64 p ∧ wr.ownsRow W1.heap.size 40 3 v (p + 1) (ecells (ins F c nf) (ins (pickF T n1) c nt) ms (p + 1)) ∧ v ≠ .slice none 0 0 ∧
      (∀ j, j < (p + 1) → Attr wr (ms j) ((ins (pickF K n2) c nk) j) ((ins (pickF V n3) c nv) j)) ∧ Below W1.heap.size W1 wr) (fun _ i _ => n - (intOf i).toNat)
  case atStart => exact ⟨c, _, Nat.le_refl _, hcn, rfl, R.1, ownsRow_pos R.1, R.2, hb2⟩
  case round =>
    obtain ⟨p, ms, hcp, hk, rfl, hown, hnn0, hat, hbw⟩ := hrel
    clear R hb2
    by_cases hlt : p < n
    · have hpc : c ≤ p := hcp
      obtain ⟨hsz, b, off, rfl, hc⟩ := unhide hF1 p (by omega)
      obtain ⟨x1, hx1⟩ : ∃ x, Hid (x = pickF T n1 p) := ⟨_, rfl⟩
      obtain ⟨x2, hx2⟩ : ∃ x, Hid (x = pickF K n2 p) := ⟨_, rfl⟩
      obtain ⟨x3, hx3⟩ : ∃ x, Hid (x = pickF V n3 p) := ⟨_, rfl⟩
      obtain ⟨x0, hx0⟩ : ∃ x, Hid (x = F p) := ⟨_, rfl⟩
      have hcell : ∀ W, Below W1.heap.size W1 W → W.cell? ⟨b, off + p, none⟩ = some (.string x0) := fun W hb => by rw [unhide hx0]; exact cell_below hc hb
      have hx2z : x2.size ≤ maxLen := by rw [unhide hx2]; exact pickF_size (unhide hK) p
      have hlk : (p : Int) < n := by omega
      have E1 : Hid (∀ W, Below W1.heap.size W1 W → Calls Try.prog 10 #[.slice a1 n1 p1, .int .i64 p] W fun e w' => e = .returned (.string x1) ∧ w' = W) := fun W hb => by rw [unhide hx1]; exact pick_any a1 n1 p1 p T W ((unhide hT1).below hb)
      have E2 : Hid (∀ W, Below W1.heap.size W1 W → Calls Try.prog 10 #[.slice a2 n2 p2, .int .i64 p] W fun e w' => e = .returned (.string x2) ∧ w' = W) := fun W hb => by rw [unhide hx2]; exact pick_any a2 n2 p2 p K W ((unhide hK1).below hb)
      have E3 : Hid (∀ W, Below W1.heap.size W1 W → Calls Try.prog 10 #[.slice a3 n3 p3, .int .i64 p] W fun e w' => e = .returned (.string x3) ∧ w' = W) := fun W hb => by rw [unhide hx3]; exact pick_any a3 n3 p3 p V W ((unhide hV1).below hb)
      have E4 : Hid (∀ W, Calls Try.prog 13 #[.string x0, .string x1, .string x2, .string x3] W fun e w' => ∃ m, e = .returned (.agg #[.string x0, .string x1, .map m]) ∧ Attr w' m x2 x3 ∧ Below W.heap.size W w') := fun W => makeEdge_any _ _ _ _ W hx2z
      clear hc
      go_upto_region 46 with fail
      go_region_held3 (fun W => Below W1.heap.size W1 W)
        (first | assumption | exact Below.drew (by assumption) | exact Below.trans (by assumption) (Below.mono (by assumption) (Below.size (by assumption))) | exact Below.alloc (by assumption) (Below.size (by assumption)) _ | exact Below.grown (by assumption) (by assumption) (Below.size (by assumption)) (ownsRow_base hown))
        (first
        | (refine step_append_own rfl (.tmp 184) (.tmp 199) 26 rfl W1.heap.size 40 i0 _ 3 40 Try.underlying26 hi0 hz0 hz1 hz2 rfl (by decide) _ (p + 1) _ rfl ((ownsRow_below (w := wr.drew) hown hbm).alloc _) ⟨_, 0, none⟩ 1 1 [.string x0, .string x1, .map m] rfl rfl (cell_three_new _ _ _ _ _) (by simp [Value.oneCell']) (by unfold maxLen; omega) (by omega) (Nat.le_trans (Below.size (by assumption)) (Nat.le_refl _)) ?_; intro v' w'' hown' hgrow' hloc)
        | (go_at_call_of 10 (Value.slice a1 n1 p1); refine (unhide E1 _ (by assumption)).mono ?_; rintro e w' ⟨rfl, rfl⟩)
        | (go_at_call_of 10 (Value.slice a2 n2 p2); refine (unhide E2 _ (by assumption)).mono ?_; rintro e w' ⟨rfl, rfl⟩)
        | (go_at_call_of 10 (Value.slice a3 n3 p3); refine (unhide E3 _ (by assumption)).mono ?_; rintro e w' ⟨rfl, rfl⟩)
        | (go_at_call 13; refine (unhide E4 _).mono ?_; rintro e w' ⟨m, rfl, hatt, hbm⟩))
      have R := build_step2 (F := (ins F c nf)) (T := (ins (pickF T n1) c nt)) (K := (ins (pickF K n2) c nk)) (V := (ins (pickF V n3) c nv)) (by rw [ins_gt (by omega)]; exact unhide hx0) (by rw [ins_gt (by omega)]; exact unhide hx1) (by rw [ins_gt (by omega)]; exact unhide hx2) (by rw [ins_gt (by omega)]; exact unhide hx3) hown hat hatt (((Below.refl wr.heap.size wr).drew).trans hbm) hgrow' hown'
      have hbl : Below W1.heap.size W1 w'' := by assumption
      clear hnn0
      clear hown hat hatt hbm hgrow' hown' hloc E1 E2 E3 E4
      go_wp2
      go_roundw
      case rel => exact ⟨p + 1, _, by omega, by omega, by go_num, R.1, ownsRow_pos R.1, R.2, hbl⟩
      case measure => simp [intOf]; omega
    · obtain rfl : p = n := by omega
      obtain ⟨g2, cap2, rfl, hcells⟩ := row_open hown hnn0
      go_upto_region 48 with fail
      refine gen_world (fun X => Hid (Graph X wr.heap.size (ins F c nf) (ins (pickF T n1) c nt) (ins (pickF K n2) c nk) (ins (pickF V n3) c nv) (p + 1)) ∧ Hid (Graph X gp1 F (pickF T n1) (pickF K n2) (pickF V n3) p) ∧ Hid (Below w.heap.size w X)) ⟨Graph.new hcells hat _ _ _ _ _ _ _, ((unhide G1).below hbw).below ((Below.refl _ _).alloc (Nat.le_refl _) _), ((unhide B1).trans (hbw.mono (unhide B1).size)).alloc (Nat.le_trans (unhide B1).size hbw.size) _⟩ ?_
      rintro X1 ⟨G2, G1', BX⟩
      generalize wr.heap.size = gp2 at G2 ⊢
      go_upto_region 49 with (go_at_call 9; refine (outG_any (unhide G1') (by omega) (unhide hFz)).mono ?_; rintro e w4 ⟨fo, rfl, hPb, hB4⟩)
      generalize X1.heap.size = bo at hPb ⊢
      have G2' := hide ((unhide G2).below hB4)
      have BX4 := hide ((unhide BX).trans (hB4.mono (unhide BX).size))
      clear G1' G2 BX hB4
      go_upto_region 50 with (go_at_call 9; refine (outG_any (unhide G2') (by omega) (fun j hj => ins_size (unhide hFz) zf hcn hj)).mono ?_; rintro e w5 ⟨fa, rfl, hPa, hB5⟩)
      have hPb' := hPb.below hB5
      have BX5 := (unhide BX4).trans (hB5.mono (unhide BX4).size)
      generalize w4.heap.size = ba at hPa ⊢
      refine tailI50 s0 b1 a0 a1 a2 a3 p n1 n2 n3 p0 p1 p2 p3 nf nt nk nv c F T K V w bo ba fo fa _ _ hn hcn zf zk hF hT hK hV BX5 hPb' hPa ?_
      assumption

end Go.Proofs.Qxb6631238a
