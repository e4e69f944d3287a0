/-
  THE WALK of FnFormatParsesBackAndKeepsOrder, seat b6630460a. The last statement holds two loads of arrays and two calls in an open order: its region is walked by hand over the laws of Derived/OrdersHeld.
-/
import Derived.Test.Qxb6630460aWalk4
import Derived.Stop.BytesEq
import Derived.Deep.RegionWith
import Derived.Deep.RegionHeld3
namespace Go.Proofs.Qxb6630460a.parseBack
open Go.ChangeShapes Go.WideShapes Go.ChangeAt Go.RowKit

theorem sizeOf5 : ∀ w, (sizeOf 5).run Try.prog w = .ok 1 w := by
  intro w
  have h : (Try.prog.info? 5).map (fun i => (i.zero, i.size, i.bytes)) = some (some (.int .u8 0), 1, 1) := by kernel_rfl
  obtain ⟨i0, hi, _, h1, _⟩ := info_parts h
  simp [sizeOf, typeInfo, hi, h1]

theorem eq_self (b : Nat → Int) (hb : ∀ i, i < 16 → 0 ≤ b i ∧ b i < 256) (w : World) : (Op.equalIn 10000 22 (.agg (rowF 16 b).toArray) (.agg (rowF 16 b).toArray)).run Try.prog w = .ok true w := by
  have e : rowF 16 b = ((List.range 16).map fun i => UInt8.ofNat (b i).toNat).map Extern.Stop.cell := by
    unfold rowF
    rw [List.map_map]
    apply List.map_congr_left
    intro i hi
    have := hb i (by simpa using hi)
    simp only [Function.comp, Extern.Stop.cell, UInt8.toNat_ofNat']
    congr 1
    rw [Nat.mod_eq_of_lt (by omega)]
    show _ = (((b i).toNat : Nat) : Int)
    omega
  rw [e, run_equalIn_bytes w 9998 22 5 16 Try.underlying22 Try.underlying5 sizeOf5 _ _ (by simp) (by simp)]
  simp

theorem text_size (b : Nat → Int) : (textS b).size = 36 := by unfold textS; rw [strOfNums_size]; simp
theorem text_get (b : Nat → Int) (hb : ∀ i, i < 16 → 0 ≤ b i ∧ b i < 256) (q : Nat) (h : q < (textS b).size) : (((textS b)[q]'h).toNat : Int) = ch b q := by
  have hq : q < 36 := by rw [← text_size b]; exact h
  have hc := ch_bounds b hb q hq
  have e : (textS b)[q]'h = UInt8.ofNat (ch b q).toNat := by
    show (textS b).data[q] = _
    unfold textS strOfNums
    simp
  rw [e, UInt8.toNat_ofNat']
  omega
theorem format_row (b : Nat → Int) (w : World) (hb : ∀ i, i < 16 → 0 ≤ b i ∧ b i < 256) :
    Calls Try.prog 5 #[.agg (rowF 16 b).toArray] w fun e w' => e = .returned (.string (textS b)) ∧ Below w.heap.size w w' := format_any b w hb

/-- The two ids in their boxes, nothing old turned. -/
def Two (w : World) (a b : Nat → Int) (W : World) : Prop := Row W w.heap.size 22 (rowF 16 a) ∧ Row W (w.heap.size + 1) 22 (rowF 16 b) ∧ Below w.heap.size w W
theorem Two.step {w W W' : World} {a b : Nat → Int} (h : Two w a b W) (hb : Below W.heap.size W W') : Two w a b W' :=
  ⟨h.1.below hb h.1.lt, h.2.1.below hb h.2.1.lt, h.2.2.trans (hb.mono (by have := h.1.lt; omega))⟩

theorem wpList_load_row' {P : Program} {w : World} {ops : Array Oper} {rest : List Oper} {o : Oper} {a : Act} {Q : Exit → Act → World → Prop}
    (p : Operand) (t : TypeId) (hop : o.op = Op.load t p) (hw : Region.wanted o (yielded ops a.tmps) = true) (g n : Nat) (e : TypeId) (vs : List Value) (hp : a.eval p = .pointer (some ⟨g, 0, none⟩)) (hr : Row w g t vs)
    (hu : P.underlying t = some (.array n e)) (hi : (P.info? t).map (·.size) = some vs.length)
    (hK : wpList P ops Q rest (a.put o.dst (.agg vs.toArray)) w) : wpList P ops Q (o :: rest) a w := by
  refine BigFrame.wpList_want hw fun K hK' => ?_
  have hl := run_loadVar_row (P := P) w g t t vs.toArray (0, 0) _ hr hu rfl (by simpa using hi)
  have hrun : (Instr.loadAt t (.pointer (some ⟨g, 0, none⟩))).run P w = .ok (.agg vs.toArray) w := by
    simp only [Instr.loadAt, Instr.sureAddr, Sem.run_bind, Sem.run_pure, Result.andThen]
    exact hl
  unfold Oper.wp
  simp [execOp, hop, hp, hrun, Result.andThen]
  exact hK' _ _ hK

theorem eqg22 : Try.prog.eqGuardType Try.prog.depth 22 = false := by kernel_rfl

theorem range_of {W : World} {g : Nat} {t : TypeId} {vs : List Value} (h : Row W g t vs) : W.rangeAt g 0 vs := fun j v hv => by rw [Nat.zero_add, h.cell, hv]
theorem held_of {w W : World} {a b : Nat → Int} (h : Two w a b W) : W.rangeAt w.heap.size 0 (rowF 16 a) ∧ W.rangeAt (w.heap.size + 1) 0 (rowF 16 b) ∧ w.heap.size + 1 < W.heap.size ∧ Below w.heap.size w W :=
  ⟨range_of h.1, range_of h.2.1, h.2.1.lt, h.2.2⟩
theorem held_drew {w W : World} {A B : List Value} (h : W.rangeAt w.heap.size 0 A ∧ W.rangeAt (w.heap.size + 1) 0 B ∧ w.heap.size + 1 < W.heap.size ∧ Below w.heap.size w W) :
    W.drew.rangeAt w.heap.size 0 A ∧ W.drew.rangeAt (w.heap.size + 1) 0 B ∧ w.heap.size + 1 < W.drew.heap.size ∧ Below w.heap.size w W.drew := ⟨h.1, h.2.1, h.2.2.1, h.2.2.2.drew⟩
theorem held_drewN {w W : World} {A B : List Value} (h : W.rangeAt w.heap.size 0 A ∧ W.rangeAt (w.heap.size + 1) 0 B ∧ w.heap.size + 1 < W.heap.size ∧ Below w.heap.size w W) (n : Nat) :
    (W.drewN n).rangeAt w.heap.size 0 A ∧ (W.drewN n).rangeAt (w.heap.size + 1) 0 B ∧ w.heap.size + 1 < (W.drewN n).heap.size ∧ Below w.heap.size w (W.drewN n) := ⟨h.1, h.2.1, h.2.2.1, below_drewN h.2.2.2 n⟩
theorem held_step {w W W' : World} {A B : List Value} (h : W.rangeAt w.heap.size 0 A ∧ W.rangeAt (w.heap.size + 1) 0 B ∧ w.heap.size + 1 < W.heap.size ∧ Below w.heap.size w W) (hb : Below W.heap.size W W') :
    W'.rangeAt w.heap.size 0 A ∧ W'.rangeAt (w.heap.size + 1) 0 B ∧ w.heap.size + 1 < W'.heap.size ∧ Below w.heap.size w W' :=
  ⟨fun j v hv => (hb.cell (p := ⟨w.heap.size, 0 + j, none⟩) (by show w.heap.size < _; omega)).trans (h.1 j v hv), fun j v hv => (hb.cell (p := ⟨w.heap.size + 1, 0 + j, none⟩) (by show w.heap.size + 1 < _; omega)).trans (h.2.1 j v hv),
    Nat.lt_of_lt_of_le h.2.2.1 hb.size, h.2.2.2.trans (hb.mono (by omega))⟩

set_option maxHeartbeats 1000000 in
theorem walk_all (a b : Nat → Int) (w : World) (ha : ∀ i, i < 16 → 0 ≤ a i ∧ a i < 256) (hb : ∀ i, i < 16 → 0 ≤ b i ∧ b i < 256) :
    Calls Try.prog 3 #[idV a, idV b] w fun e w' => e = .returned (.bool true) ∧ Below w.heap.size w w' := by
  have na := eq_self a ha
  have nb := eq_self b hb
  have eg := eqg22
  unfold idV
  go_enter Try.func3, Try.ntmps3
  go_upto_region 1 with fail
  refine gen_world (Two w a b) ⟨(Row.new w 22 (rowF 16 a)).alloc _, Row.new2 w _ 22 (rowF 16 b), ((Below.refl _ _).alloc (Nat.le_refl _) _).alloc (by simp) _⟩ ?_
  intro W h0
  go_wp2_with (refine wpList_load_row rfl (.tmp 2) 22 rfl w.heap.size 16 5 (rowF 16 a) rfl h0.1 Try.underlying22 (by rw [rowF_length]; exact size22) ?_)
  refine (format_row a _ ha).mono ?_
  rintro e w1 ⟨rfl, hb1⟩
  have h1 := h0.step hb1
  clear h0 hb1
  go_wp2_with (refine wpList_load_row rfl (.tmp 3) 22 rfl (w.heap.size + 1) 16 5 (rowF 16 b) rfl h1.2.1 Try.underlying22 (by rw [rowF_length]; exact size22) ?_)
  refine (format_row b _ hb).mono ?_
  rintro e w2 ⟨rfl, hb2⟩
  have h2 := h1.step hb2
  clear h1 hb2
  go_wp2_with fail
  refine (parse_any a (textS a) _ ha (text_size a) (text_get a ha)).mono ?_
  rintro e w3 ⟨rfl, hb3⟩
  have h3 := h2.step hb3
  clear h2 hb3
  go_upto_region 4 with (refine wpList_store_row rfl rfl (.tmp 7) (.tmp 18) 22 rfl w3.heap.size 22 (rowF 16 (fun _ => 0)) (rowF 16 a) rfl rfl (Row.new w3 22 (rowF 16 (fun _ => 0))) (by rw [rowF_length]; exact size22) (by rw [rowF_length, rowF_length]) (by simp [rowF, Value.oneCell']) ?_; intro w4 hr4 hg4)
  have h4 := h3.step (((Below.refl w3.heap.size w3).alloc (Nat.le_refl _) _).grown hg4 (by simp) (by intro k e; injection e with e; omega))
  clear h3 hg4
  go_upto_region 6 with (first
    | (refine wpList_load_row' (.tmp 7) 22 rfl (by rfl) w3.heap.size 16 5 (rowF 16 a) rfl hr4 Try.underlying22 (by rw [rowF_length]; exact size22) ?_)
    | (refine wpList_load_row' (.tmp 2) 22 rfl (by rfl) w.heap.size 16 5 (rowF 16 a) rfl h4.1 Try.underlying22 (by rw [rowF_length]; exact size22) ?_))
  clear hr4
  go_wp2_with fail
  refine (parse_any b (textS b) _ hb (text_size b) (text_get b hb)).mono ?_
  rintro e w5 ⟨rfl, hb5⟩
  have h5 := h4.step hb5
  clear h4 hb5
  go_upto_region 7 with (refine wpList_store_row rfl rfl (.tmp 9) (.tmp 30) 22 rfl w5.heap.size 22 (rowF 16 (fun _ => 0)) (rowF 16 b) rfl rfl (Row.new w5 22 (rowF 16 (fun _ => 0))) (by rw [rowF_length]; exact size22) (by rw [rowF_length, rowF_length]) (by simp [rowF, Value.oneCell']) ?_; intro w6 hr6 hg6)
  have h6 := h5.step (((Below.refl w5.heap.size w5).alloc (Nat.le_refl _) _).grown hg6 (by simp) (by intro k e; injection e with e; omega))
  clear h5 hg6
  go_upto_region 9 with (first
    | (refine wpList_load_row' (.tmp 9) 22 rfl (by rfl) w5.heap.size 16 5 (rowF 16 b) rfl hr6 Try.underlying22 (by rw [rowF_length]; exact size22) ?_)
    | (refine wpList_load_row' (.tmp 3) 22 rfl (by rfl) (w.heap.size + 1) 16 5 (rowF 16 b) rfl h6.2.1 Try.underlying22 (by rw [rowF_length]; exact size22) ?_))
  clear hr6 na nb eg
  obtain ⟨c, hcA, hcB⟩ : ∃ c, Hid (cmpFrom (ch a) (ch b) 36 0 = c) ∧ Hid (cmpFrom a b 16 0 = c) := ⟨_, order_law a b ha hb, rfl⟩
  have HT : Hid (∀ W, Calls Try.prog 7 #[.string (textS a), .string (textS b)] W fun e w' => e = .returned (.int .i64 c) ∧ ∃ n, w' = W.drewN n) := fun W => by
    rw [← hcA.out]; exact cmpText_any _ _ (ch a) (ch b) W (text_size a) (text_size b) (text_get a ha) (text_get b hb)
  have HI : Hid (∀ W, Calls Try.prog 8 #[.agg (rowF 16 a).toArray, .agg (rowF 16 b).toArray] W fun e w' => e = .returned (.int .i64 c) ∧ Below W.heap.size W w') := fun W => by
    rw [← hcB.out]; exact cmpId_any a b W
  have S6 := held_of h6
  have u22 := Try.underlying22
  have z22a : (Try.prog.info? 22).map (·.size) = some (rowF 16 a).length := by rw [rowF_length]; exact size22
  have z22b : (Try.prog.info? 22).map (·.size) = some (rowF 16 b).length := by rw [rowF_length]; exact size22
  clear h6 ha hb hcA hcB
  generalize textS a = S at *
  generalize textS b = T at *
  generalize rowF 16 a = A at *
  generalize rowF 16 b = B at *
  refine wp_region_held_drew (S := fun w' => w'.rangeAt w.heap.size 0 A ∧ w'.rangeAt (w.heap.size + 1) 0 B ∧ w.heap.size + 1 < w'.heap.size ∧ Below w.heap.size w w') (by kernel_rfl) (held_drew S6) (fun hHeld => ?_)
  refine wpAnyH_take (i := 0) (v := .string S) rfl (by kernel_rfl) (by kernel_rfl) (by kernel_rfl) (fun _ _ _ h => h) (Or.inl ⟨by rfl, fun _ _ => rfl⟩) hHeld ?_
  simp only [Act.put, List.getElem_toArray, List.getElem_cons_zero, List.setIfInBounds_toArray, List.set_cons_zero, List.set_cons_succ]
  refine wpAnyH_take (i := 1) (v := .string T) rfl (by kernel_rfl) (by kernel_rfl) (by kernel_rfl) (fun _ _ _ h => h) (Or.inl ⟨by rfl, fun _ _ => rfl⟩) hHeld ?_
  simp only [Act.put, List.getElem_toArray, List.getElem_cons_zero, List.getElem_cons_succ, List.setIfInBounds_toArray, List.set_cons_zero, List.set_cons_succ]
  refine wpAnyH_take (i := 3) (v := .agg A.toArray) rfl (by kernel_rfl) (by kernel_rfl) (by kernel_rfl) (fun _ _ _ h => h) (yieldsIf_load_mid (by rfl) 22 (.tmp 2) rfl w.heap.size 0 rfl A _ (fun _ h => h.1) u22 rfl z22a) hHeld ?_
  simp only [Act.put, List.getElem_toArray, List.getElem_cons_zero, List.getElem_cons_succ, List.setIfInBounds_toArray, List.set_cons_zero, List.set_cons_succ]
  refine wpAnyH_take (i := 4) (v := .agg B.toArray) rfl (by kernel_rfl) (by kernel_rfl) (by kernel_rfl) (fun _ _ _ h => h) (yieldsIf_load_mid (by rfl) 22 (.tmp 3) rfl (w.heap.size + 1) 0 rfl B _ (fun _ h => h.2.1) u22 rfl z22b) hHeld ?_
  simp only [Act.put, List.getElem_toArray, List.getElem_cons_zero, List.getElem_cons_succ, List.setIfInBounds_toArray, List.set_cons_zero, List.set_cons_succ]
  refine wpAnyH_ready (rs := [2]) (by kernel_rfl) (by simp) ?_
  refine AllReadyH.cons rfl (fun K hK => ?_) AllReadyH.nil
  go_simp
  refine (HT.out _).mono ?_
  rintro e w7 ⟨rfl, n, rfl⟩
  dsimp only
  refine hK.out _ _ (held_drewN hHeld n) (fun hHeld2 => ?_)
  clear hK K
  refine wpAnyH_ready (rs := [5]) (by kernel_rfl) (by simp) ?_
  refine AllReadyH.cons rfl (fun K hK => ?_) AllReadyH.nil
  go_simp
  refine (HI.out _).mono ?_
  rintro e w8 ⟨rfl, hb8⟩
  dsimp only
  have hHeld2' := hHeld2
  rw [World.drewN_drew] at hHeld2'
  refine hK.out _ _ (by first | exact held_step hHeld2 hb8 | exact held_step hHeld2' hb8) (fun hHeld3 => ?_)
  clear hK K
  refine wpAnyH_take (i := 6) (v := .bool true) rfl (by kernel_rfl) (by kernel_rfl) (by kernel_rfl) (fun _ _ _ h => h) (Or.inl ⟨by rfl, fun _ _ => by go_simp⟩) hHeld3 ?_
  simp only [Act.put, List.getElem_toArray, List.getElem_cons_zero, List.getElem_cons_succ, List.setIfInBounds_toArray, List.set_cons_zero, List.set_cons_succ]
  refine wpAnyH_take (i := 7) (v := .bool true) rfl (by kernel_rfl) (by kernel_rfl) (by kernel_rfl) (fun _ _ _ h => h) (Or.inl ⟨by rfl, fun _ _ => rfl⟩) hHeld3 ?_
  simp only [Act.put, List.getElem_toArray, List.getElem_cons_zero, List.getElem_cons_succ, List.setIfInBounds_toArray, List.set_cons_zero, List.set_cons_succ]
  refine wpAnyH_done (by kernel_rfl) ?_ _
  go_wp2
  go_ret
  exact ⟨rfl, hHeld3.2.2.2⟩
end Go.Proofs.Qxb6630460a.parseBack
