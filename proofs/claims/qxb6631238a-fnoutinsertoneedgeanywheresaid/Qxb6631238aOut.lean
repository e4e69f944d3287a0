/-
  THE WALK of (*Graph).Out, by contract: seat b6631238a. Its drawn region is walked by hand over the laws of Derived/OrdersHeld.
-/
import Derived.Test.Qxb6631238aOutLaws
namespace Go.Proofs.Qxb6631238a
open Go.RowKit Go.Maps

section
variable {W : World} {b n sz : Nat} {f : List UInt8 → Option Value} {ops : Array Oper} {o : Oper} {a : Act} {K : Act → World → Prop} {Q : Exit → Act → World → Prop} {E : Prop}
theorem step_look (hg : o.guard = none) (m x : Operand) (t : TypeId) (hop : o.op = Op.lookup t m x false) (e : TypeId) (z : Value) (ht : Try.prog.underlying t = some (.map 9 e)) (hz : ∀ W, (zeroValue e).run Try.prog W = .ok z W)
    (h : OMap W b n f sz) (hm : a.eval m = .map (some b)) (s : ByteArray) (hx : a.eval x = .string s) (hs : s.size ≤ maxLen) (v : Value) (hv : (f (kof s)).getD z = v)
    (hK : K (a.put o.dst v) W) : if Region.wanted o (yielded ops a.tmps) = true then Oper.wp Try.prog o a W K Q else E := by
  have hw : Region.wanted o (yielded ops a.tmps) = true := by simp [Region.wanted, hg]
  rw [if_pos hw]
  have hrun := h.look ht (hz W) hs
  rw [hv] at hrun
  unfold Oper.wp
  simp [execOp, hop, hm, hx, hrun, Result.andThen]
  exact hK
theorem step_mput (hg : o.guard = none) (m x v : Operand) (t : TypeId) (hop : o.op = Op.mapUpdate t m x v) (e : TypeId) (ht : Try.prog.underlying t = some (.map 9 e))
    (h : OMap W b n f sz) (hn : n < maxLen) (hm : a.eval m = .map (some b)) (s : ByteArray) (hx : a.eval x = .string s) (hs : s.size ≤ maxLen) (u : Value) (hv : a.eval v = u)
    (hK : ∀ W', OMap W' b (n + 1) (upd f (kof s) u) (if (f (kof s)).isSome then sz else sz + 1) → W.grownBy W' (some b) → K (a.put o.dst undef) W') :
    if Region.wanted o (yielded ops a.tmps) = true then Oper.wp Try.prog o a W K Q else E := by
  have hw : Region.wanted o (yielded ops a.tmps) = true := by simp [Region.wanted, hg]
  rw [if_pos hw]
  obtain ⟨W', hrun, r1, r2⟩ := h.store ht hn hs u
  unfold Oper.wp
  simp [execOp, hop, hm, hx, hv, hrun, Result.andThen]
  exact hK W' r1 r2
end

theorem S3_new (w : World) (x y z : Value) : (w.alloc (.cells #[x, y, z] 40)).drew.cell? ⟨w.heap.size, 0, none⟩ = some x ∧ (w.alloc (.cells #[x, y, z] 40)).drew.cell? ⟨w.heap.size, 1, none⟩ = some y ∧ (w.alloc (.cells #[x, y, z] 40)).drew.cell? ⟨w.heap.size, 2, none⟩ = some z := by
  have hb : (w.alloc (.cells #[x, y, z] 40)).drew.heap[w.heap.size]? = some (.cells #[x, y, z] 40 (0, 0)) := heap_alloc_new w _
  refine ⟨?_, ?_, ?_⟩
  · rw [cell_of_row _ _ 0 _ 40 (0, 0) hb]; rfl
  · rw [cell_of_row _ _ 1 _ 40 (0, 0) hb]; rfl
  · rw [cell_of_row _ _ 2 _ 40 (0, 0) hb]; rfl
theorem S3_new2 (w : World) (x y z : Value) : ((w.alloc (.cells #[x, y, z] 40)).alloc (.cells #[x, y, z] 40)).drew.cell? ⟨w.heap.size, 0, none⟩ = some x ∧ ((w.alloc (.cells #[x, y, z] 40)).alloc (.cells #[x, y, z] 40)).drew.cell? ⟨w.heap.size, 1, none⟩ = some y ∧ ((w.alloc (.cells #[x, y, z] 40)).alloc (.cells #[x, y, z] 40)).drew.cell? ⟨w.heap.size, 2, none⟩ = some z := by
  have hb : ((w.alloc (.cells #[x, y, z] 40)).alloc (.cells #[x, y, z] 40)).drew.heap[w.heap.size]? = some (.cells #[x, y, z] 40 (0, 0)) := (Below.heap_alloc _ _ _ (by simp)).trans (heap_alloc_new w _)
  refine ⟨?_, ?_, ?_⟩
  · rw [cell_of_row _ _ 0 _ 40 (0, 0) hb]; rfl
  · rw [cell_of_row _ _ 1 _ 40 (0, 0) hb]; rfl
  · rw [cell_of_row _ _ 2 _ 40 (0, 0) hb]; rfl
theorem news2 (w : World) (x y z : Value) : ∀ j u, [x, y, z][j]? = some u → ((w.alloc (.cells #[x, y, z] 40)).alloc (.cells #[x, y, z] 40)).drew.cell? ((⟨w.heap.size + 1, 0, none⟩ : Addr).add j) = some u := by
  intro j u hj
  have := cell_three_new (w.alloc (.cells #[x, y, z] 40)) x y z 40 j u hj
  simpa using this
theorem row_ne {wr : World} {B : Nat} {F T : Nat → ByteArray} {ms : Nat → Option Nat} {k : Nat} {f : List UInt8 → Option Value} (h : Inv wr B F T ms k f) {key : List UInt8} : some wr.heap.size ≠ ((f key).getD (.slice none 0 0)).ownBlock := by
  intro e
  have := ((h.at_key key).lt _ e.symm).2
  omega
theorem map_ne {wr : World} {B : Nat} {F T : Nat → ByteArray} {ms : Nat → Option Nat} {k : Nat} {f : List UInt8 → Option Value} (h : Inv wr B F T ms k f) {key : List UInt8} : some B ≠ ((f key).getD (.slice none 0 0)).ownBlock := by
  intro e
  have := ((h.at_key key).lt _ e.symm).1
  omega
theorem row_base {wr : World} {B : Nat} {F T : Nat → ByteArray} {ms : Nat → Option Nat} {k : Nat} {f : List UInt8 → Option Value} (h : Inv wr B F T ms k f) {key : List UInt8} : ∀ g, ((f key).getD (.slice none 0 0)).ownBlock = some g → B ≤ g := by
  intro g e
  have := ((h.at_key key).lt g e).1
  omega
theorem S3_kept {W W' : World} {q : Nat} {x y z : Value} {row : Option Nat} (h : W.cell? ⟨q, 0, none⟩ = some x ∧ W.cell? ⟨q, 1, none⟩ = some y ∧ W.cell? ⟨q, 2, none⟩ = some z) (hg : W.grownBy W' row) (hne : some q ≠ row) :
    W'.cell? ⟨q, 0, none⟩ = some x ∧ W'.cell? ⟨q, 1, none⟩ = some y ∧ W'.cell? ⟨q, 2, none⟩ = some z := ⟨hg.cell h.1 hne, hg.cell h.2.1 hne, hg.cell h.2.2 hne⟩

set_option maxHeartbeats 1000000 in
theorem out_any (gp g n cap : Nat) (F T : Nat → ByteArray) (ms : Nat → Option Nat) (w : World) (hcl : w.cell? ⟨gp, 7, none⟩ = some (.slice (some ⟨g, 0, none⟩) n cap)) (hn : n ≤ 65537)
    (hr : ∀ j, j < n → w.cell? ⟨g, j * 3, none⟩ = some (.string (F j)) ∧ w.cell? ⟨g, j * 3 + 1, none⟩ = some (.string (T j)) ∧ w.cell? ⟨g, j * 3 + 2, none⟩ = some (.map (ms j))) (hF : ∀ j, j < n → (F j).size ≤ maxLen) :
    Calls Try.prog 9 #[.pointer (some ⟨gp, 0, none⟩)] w fun e w' => ∃ f, e = .returned (.map (some w.heap.size)) ∧ Inv w' w.heap.size F T ms n f ∧ Below w.heap.size w w' := by
  obtain ⟨i0, hi0, hz0, hz1, hz2⟩ := info_parts info40
  have hmm := @run_makeMap Try.prog
  have hcl' : (w.alloc (.map #[] 0)).cell? ⟨gp, 7, none⟩ = some (.slice (some ⟨g, 0, none⟩) n cap) :=
    (((Below.refl w.heap.size w).alloc (Nat.le_refl _) _).cell (p := ⟨gp, 7, none⟩) (World.block_lt_of_cell? w _ hcl)).trans hcl
  go_enter Try.func9, Try.ntmps9
  go_wp2
  clear hcl'
  go_loopw [12] (fun i wr => ∃ (k : Nat) (f : List UInt8 → Option Value), k ≤ n ∧ i = .int .i64 k ∧ Inv wr w.heap.size F T ms k f ∧ Below w.heap.size w wr) (fun i _ => n - (intOf i).toNat)
  case atStart => exact ⟨0, _, Nat.zero_le _, rfl, Inv.made w F T ms, (Below.refl _ _).alloc (Nat.le_refl _) _⟩
  case round =>
    obtain ⟨k, f, hk, rfl, hI, hbw⟩ := hrel
    by_cases hlt : k < n
    · obtain ⟨c0, c1, c2⟩ := hr k hlt
      have hgl : g < w.heap.size := World.block_lt_of_cell? w _ c0
      have e0 : wr.cell? ⟨g, k * 3, none⟩ = some (.string (F k)) := (hbw.cell (p := ⟨g, k * 3, none⟩) hgl).trans c0
      have e1 : wr.cell? ⟨g, k * 3 + 1, none⟩ = some (.string (T k)) := (hbw.cell (p := ⟨g, k * 3 + 1, none⟩) hgl).trans c1
      have e2 : wr.cell? ⟨g, k * 3 + 2, none⟩ = some (.map (ms k)) := (hbw.cell (p := ⟨g, k * 3 + 2, none⟩) hgl).trans c2
      have hFk := hF k hlt
      clear hr c0 c1 c2 hF hcl
      go_upto_region 5 with fail
      clear e0 e1 e2
      refine wp_region_noPanic ?_
      refine wp_region_held_drew (S := fun W => W.cell? ⟨wr.heap.size, 0, none⟩ = some (.string (F k)) ∧ W.cell? ⟨wr.heap.size, 1, none⟩ = some (.string (T k)) ∧ W.cell? ⟨wr.heap.size, 2, none⟩ = some (.map (ms k))) (by kernel_rfl) ?_ (fun hHeld => ?_)
      · exact S3_new wr (.string (F k)) (.string (T k)) (.map (ms k))
      refine wpAnyH_take (i := 0) (v := .map (some w.heap.size)) rfl (by kernel_rfl) (by kernel_rfl) (by kernel_rfl) (fun _ _ _ h => h) (Or.inl ⟨by rfl, fun _ _ => rfl⟩) hHeld ?_
      simp only [Act.put, List.getElem_toArray, List.getElem_cons_zero, List.setIfInBounds_toArray, List.set_cons_zero, List.set_cons_succ]
      refine wpAnyH_take (i := 1) (v := .pointer (some ⟨wr.heap.size, 0, none⟩)) rfl (by kernel_rfl) (by kernel_rfl) (by kernel_rfl) (fun _ _ _ h => h) (Or.inl ⟨by rfl, fun _ _ => by go_simp⟩) hHeld ?_
      simp only [Act.put, List.getElem_toArray, List.getElem_cons_zero, List.getElem_cons_succ, List.setIfInBounds_toArray, List.set_cons_zero, List.set_cons_succ]
      refine wpAnyH_take (i := 2) (v := .string (F k)) rfl (by kernel_rfl) (by kernel_rfl) (by kernel_rfl) (fun _ _ _ h => h) (Or.inl ⟨by rfl, fun _ hS => by go_simp⟩) hHeld ?_
      simp only [Act.put, List.getElem_toArray, List.getElem_cons_zero, List.getElem_cons_succ, List.setIfInBounds_toArray, List.set_cons_zero, List.set_cons_succ]
      refine wpAnyH_take (i := 3) (v := .map (some w.heap.size)) rfl (by kernel_rfl) (by kernel_rfl) (by kernel_rfl) (fun _ _ _ h => h) (Or.inl ⟨by rfl, fun _ _ => rfl⟩) hHeld ?_
      simp only [Act.put, List.getElem_toArray, List.getElem_cons_zero, List.getElem_cons_succ, List.setIfInBounds_toArray, List.set_cons_zero, List.set_cons_succ]
      refine wpAnyH_take (i := 4) (v := .pointer (some ⟨wr.heap.size, 0, none⟩)) rfl (by kernel_rfl) (by kernel_rfl) (by kernel_rfl) (fun _ _ _ h => h) (Or.inl ⟨by rfl, fun _ _ => by go_simp⟩) hHeld ?_
      simp only [Act.put, List.getElem_toArray, List.getElem_cons_zero, List.getElem_cons_succ, List.setIfInBounds_toArray, List.set_cons_zero, List.set_cons_succ]
      refine wpAnyH_take (i := 5) (v := .string (F k)) rfl (by kernel_rfl) (by kernel_rfl) (by kernel_rfl) (fun _ _ _ h => h) (Or.inl ⟨by rfl, fun _ hS => by go_simp⟩) hHeld ?_
      simp only [Act.put, List.getElem_toArray, List.getElem_cons_zero, List.getElem_cons_succ, List.setIfInBounds_toArray, List.set_cons_zero, List.set_cons_succ]
      refine wpAnyH_take (i := 7) (v := .agg #[.string (F k), .string (T k), .map (ms k)]) rfl (by kernel_rfl) (by kernel_rfl) (by kernel_rfl) (fun _ _ _ h => h) (Or.inl ⟨by rfl, fun _ hS => by go_simp⟩) hHeld ?_
      simp only [Act.put, List.getElem_toArray, List.getElem_cons_zero, List.getElem_cons_succ, List.setIfInBounds_toArray, List.set_cons_zero, List.set_cons_succ]
      have hX0 : Below wr.heap.size wr (wr.alloc (.cells #[.string (F k), .string (T k), .map (ms k)] 40)).drew := ((Below.refl _ _).alloc (Nat.le_refl _) _).drew
      have hX : Below wr.heap.size wr ((wr.alloc (.cells #[.string (F k), .string (T k), .map (ms k)] 40)).alloc (.cells #[.string (F k), .string (T k), .map (ms k)] 40)).drew := (((Below.refl _ _).alloc (Nat.le_refl _) _).alloc (by simp) _).drew
      have hSX := S3_new2 wr (.string (F k)) (.string (T k)) (.map (ms k))
      have hnews : ∀ j u, [Value.string (F k), .string (T k), .map (ms k)][j]? = some u → ((wr.alloc (.cells #[.string (F k), .string (T k), .map (ms k)] 40)).alloc (.cells #[.string (F k), .string (T k), .map (ms k)] 40)).drew.cell? ((⟨wr.heap.size + 1, 0, none⟩ : Addr).add j) = some u := news2 wr _ _ _
      have hBlt := hI.map.lt
      have hlen := idx_len F k (kof (F k))
      refine wpAnyH_ready (rs := [6, 8]) (by kernel_rfl) (by simp) ?_
      refine AllReadyH.cons rfl (fun K hK => ?_) (AllReadyH.cons rfl (fun K hK => ?_) AllReadyH.nil)
      · refine step_look rfl (.tmp 19) (.tmp 21) 33 rfl 26 (.slice none 0 0) Try.underlying33 zero26 (hI.map.below hX0 hBlt) rfl (F k) rfl hFk _ rfl ?_
        refine hK.out _ _ hHeld (fun hHeld2 => ?_)
        clear hK K
        simp only [Act.put, List.getElem_toArray, List.getElem_cons_zero, List.getElem_cons_succ, List.setIfInBounds_toArray, List.set_cons_zero, List.set_cons_succ]
        refine wpAnyH_ready (rs := [8]) (by kernel_rfl) (by simp) ?_
        refine AllReadyH.cons rfl (fun K hK => ?_) AllReadyH.nil
        go_simp
        refine hK.out _ _ hSX (fun hHeld3 => ?_)
        clear hK K hHeld2
        generalize ((wr.alloc (.cells #[.string (F k), .string (T k), .map (ms k)] 40)).alloc (.cells #[.string (F k), .string (T k), .map (ms k)] 40)).drew = X at *
        refine wpAnyH_ready (rs := [9]) (by kernel_rfl) (by simp) ?_
        refine AllReadyH.cons rfl (fun K hK => ?_) AllReadyH.nil
        refine step_append_own rfl (.tmp 22) (.tmp 24) 26 rfl (w.heap.size + 1) 40 i0 _ 3 40 Try.underlying26 hi0 hz0 hz1 hz2 rfl (by decide) _ _ _ rfl (ownsRow_below (hI.at_key (kof (F k))) hX) ⟨wr.heap.size + 1, 0, none⟩ 1 1 [.string (F k), .string (T k), .map (ms k)] rfl rfl hnews (by simp [Value.oneCell']) (by unfold maxLen; omega) (by omega) (Nat.le_trans hI.room hX.size) ?_
        intro v' w2 hown2 hg2 hloc
        refine hK.out _ _ (S3_kept hHeld3 hg2 (row_ne hI)) (fun hHeld5 => ?_)
        clear hK K
        simp only [Act.put, List.getElem_toArray, List.getElem_cons_zero, List.getElem_cons_succ, List.setIfInBounds_toArray, List.set_cons_zero, List.set_cons_succ]
        refine wpAnyH_ready (rs := [10]) (by kernel_rfl) (by simp) ?_
        refine AllReadyH.cons rfl (fun K hK => ?_) AllReadyH.nil
        refine step_mput rfl (.tmp 16) (.tmp 18) (.tmp 25) 33 rfl 26 Try.underlying33 ((hI.map.below hX hBlt).kept hg2 (map_ne hI)) (by unfold maxLen; omega) rfl (F k) rfl hFk v' rfl ?_
        intro w3 hm3 hg3
        refine hK.out _ _ (S3_kept hHeld5 hg3 (by intro e; injection e with e; omega)) (fun hHeld6 => ?_)
        clear hK K
        have R := hI.step hX hown2 hg2 hloc hm3 hg3
        have hb3 : Below w.heap.size w w3 := ((hbw.trans (hX.mono hbw.size)).grown hg2 (Nat.le_trans hbw.size hX.size) (row_base hI)).grown hg3 (Nat.le_trans hbw.size (Nat.le_trans hX.size hg2.size)) (by intro j e; injection e with e; omega)
        clear hI hbw hX hSX hnews hown2 hg2 hloc hm3 hg3 hHeld3 hHeld5 hHeld6 hHeld
        refine wpAnyH_done (by kernel_rfl) ?_ _
        refine NoPanic.normal ?_
        simp only [Act.put, List.getElem_toArray, List.getElem_cons_zero, List.getElem_cons_succ]
        go_wp2
        go_roundw
        case rel => exact ⟨k + 1, _, by omega, by go_num, R, hb3⟩
        case measure => simp [intOf]; omega
      · go_simp
        refine hK.out _ _ hSX (fun hHeld3 => ?_)
        clear hK K
        generalize ((wr.alloc (.cells #[.string (F k), .string (T k), .map (ms k)] 40)).alloc (.cells #[.string (F k), .string (T k), .map (ms k)] 40)).drew = X at *
        refine wpAnyH_ready (rs := [6]) (by kernel_rfl) (by simp) ?_
        refine AllReadyH.cons rfl (fun K hK => ?_) AllReadyH.nil
        refine step_look rfl (.tmp 19) (.tmp 21) 33 rfl 26 (.slice none 0 0) Try.underlying33 zero26 (hI.map.below hX hBlt) rfl (F k) rfl hFk _ rfl ?_
        refine hK.out _ _ hHeld3 (fun hHeld4 => ?_)
        clear hK K hHeld4
        simp only [Act.put, List.getElem_toArray, List.getElem_cons_zero, List.getElem_cons_succ, List.setIfInBounds_toArray, List.set_cons_zero, List.set_cons_succ]
        refine wpAnyH_ready (rs := [9]) (by kernel_rfl) (by simp) ?_
        refine AllReadyH.cons rfl (fun K hK => ?_) AllReadyH.nil
        refine step_append_own rfl (.tmp 22) (.tmp 24) 26 rfl (w.heap.size + 1) 40 i0 _ 3 40 Try.underlying26 hi0 hz0 hz1 hz2 rfl (by decide) _ _ _ rfl (ownsRow_below (hI.at_key (kof (F k))) hX) ⟨wr.heap.size + 1, 0, none⟩ 1 1 [.string (F k), .string (T k), .map (ms k)] rfl rfl hnews (by simp [Value.oneCell']) (by unfold maxLen; omega) (by omega) (Nat.le_trans hI.room hX.size) ?_
        intro v' w2 hown2 hg2 hloc
        refine hK.out _ _ (S3_kept hHeld3 hg2 (row_ne hI)) (fun hHeld5 => ?_)
        clear hK K
        simp only [Act.put, List.getElem_toArray, List.getElem_cons_zero, List.getElem_cons_succ, List.setIfInBounds_toArray, List.set_cons_zero, List.set_cons_succ]
        refine wpAnyH_ready (rs := [10]) (by kernel_rfl) (by simp) ?_
        refine AllReadyH.cons rfl (fun K hK => ?_) AllReadyH.nil
        refine step_mput rfl (.tmp 16) (.tmp 18) (.tmp 25) 33 rfl 26 Try.underlying33 ((hI.map.below hX hBlt).kept hg2 (map_ne hI)) (by unfold maxLen; omega) rfl (F k) rfl hFk v' rfl ?_
        intro w3 hm3 hg3
        refine hK.out _ _ (S3_kept hHeld5 hg3 (by intro e; injection e with e; omega)) (fun hHeld6 => ?_)
        clear hK K
        have R := hI.step hX hown2 hg2 hloc hm3 hg3
        have hb3 : Below w.heap.size w w3 := ((hbw.trans (hX.mono hbw.size)).grown hg2 (Nat.le_trans hbw.size hX.size) (row_base hI)).grown hg3 (Nat.le_trans hbw.size (Nat.le_trans hX.size hg2.size)) (by intro j e; injection e with e; omega)
        clear hI hbw hX hSX hnews hown2 hg2 hloc hm3 hg3 hHeld3 hHeld5 hHeld6 hHeld
        refine wpAnyH_done (by kernel_rfl) ?_ _
        refine NoPanic.normal ?_
        simp only [Act.put, List.getElem_toArray, List.getElem_cons_zero, List.getElem_cons_succ]
        go_wp2
        go_roundw
        case rel => exact ⟨k + 1, _, by omega, by go_num, R, hb3⟩
        case measure => simp [intOf]; omega
    · obtain rfl : k = n := by omega
      go_wp2
      go_ret
      exact ⟨f, rfl, hI, hbw⟩
end Go.Proofs.Qxb6631238a
