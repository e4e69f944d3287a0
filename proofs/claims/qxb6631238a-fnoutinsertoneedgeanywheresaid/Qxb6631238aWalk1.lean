/-
  WALKS of seat b6631238a: the small helpers, by contract: outAddString, outAddBytes, outPick, outMakeEdge, outSameEdge.
-/
import Derived.Test.Qxb6631238aMaps
import Derived.ProofKit
import Derived.OpenShut
import Derived.Deep.Cut
import Derived.WalkSpells
import Derived.Lib.Strings
namespace Go.Proofs.Qxb6631238a
open Go.RowKit Go.Maps

theorem ret_int {k : IntKind} {a b : Int} (h : a = b) : Ending.returned (.int k a) = .returned (.int k b) := by rw [h]
theorem ret_str {a b : ByteArray} (h : a = b) : Ending.returned (.string a) = .returned (.string b) := by rw [h]

/-- A slice of strings: what its first len places hold. -/
def Strs (W : World) (a : Option Addr) (len : Nat) (s : Nat → ByteArray) : Prop :=
  ∀ i, i < len → (s i).size ≤ maxLen ∧ ∃ b off, a = some ⟨b, off, none⟩ ∧ W.cell? ⟨b, off + i, none⟩ = some (.string (s i))
theorem Strs.below {W W' : World} {a : Option Addr} {len : Nat} {s : Nat → ByteArray} (h : Strs W a len s) (hb : Below W.heap.size W W') : Strs W' a len s := fun i hi => by
  obtain ⟨h1, b, off, rfl, hc⟩ := h i hi
  exact ⟨h1, b, off, rfl, (hb.cell (p := ⟨b, off + i, none⟩) (World.block_lt_of_cell? W _ hc)).trans hc⟩
def pickF (s : Nat → ByteArray) (len i : Nat) : ByteArray := if i < len then s i else ⟨#[]⟩
theorem pickF_size {W : World} {a : Option Addr} {len : Nat} {s : Nat → ByteArray} (h : Strs W a len s) (i : Nat) : (pickF s len i).size ≤ maxLen := by
  unfold pickF; split
  · rename_i hi; exact (h i hi).1
  · exact Nat.zero_le _

set_option maxHeartbeats 400000 in
theorem addString_any (total : Int) (s : ByteArray) (w : World) (h0 : 0 ≤ total) (h1 : total ≤ 1048576) (hs : s.size ≤ maxLen) :
    Calls Try.prog 6 #[.int .i64 total, .string s] w fun e w' => ∃ r, 0 ≤ r ∧ e = .returned (.int .i64 r) ∧ w' = w := by
  unfold maxLen at hs
  go_enter Try.func6, Try.ntmps6
  go_wp2
  · go_ret
    exact ⟨_, by decide, rfl, rfl⟩
  · go_ret
    exact ⟨_, by omega, rfl, rfl⟩

set_option maxHeartbeats 400000 in
theorem pick_any (a : Option Addr) (len cap i : Nat) (s : Nat → ByteArray) (w : World) (h : Strs w a len s) :
    Calls Try.prog 10 #[.slice a len cap, .int .i64 i] w fun e w' => e = .returned (.string (pickF s len i)) ∧ w' = w := by
  by_cases hi : i < len
  · obtain ⟨_, b, off, rfl, hc⟩ := h i hi
    clear h
    go_enter Try.func10, Try.ntmps10
    go_wp2
    go_ret
    exact ⟨ret_str (by unfold pickF; rw [if_pos hi]), rfl⟩
  · clear h
    go_enter Try.func10, Try.ntmps10
    go_wp2
    go_ret
    exact ⟨ret_str (by unfold pickF; rw [if_neg hi]), rfl⟩

set_option maxHeartbeats 800000 in
theorem addBytes_any (total : Int) (a : Option Addr) (len cap : Nat) (s : Nat → ByteArray) (w : World) (h0 : 0 ≤ total) (h1 : total ≤ 1048576) (hl : len ≤ 65536) (h : Strs w a len s) (hsm : ∀ i, i < len → (s i).size ≤ 1048576) :
    Calls Try.prog 7 #[.int .i64 total, .slice a len cap] w fun e w' => ∃ r, 0 ≤ r ∧ e = .returned (.int .i64 r) ∧ w' = w := by
  go_enter Try.func7, Try.ntmps7
  go_wp2
  · go_ret
    exact ⟨_, by omega, rfl, rfl⟩
  · go_loop [0, 5] (fun t i => ∃ (k : Nat) (q : Int), k ≤ len ∧ i = .int .i64 k ∧ t = .int .i64 q ∧ 0 ≤ q ∧ q ≤ 1048576) (fun _ i => len - (intOf i).toNat)
    case atStart => exact ⟨0, _, by omega, rfl, rfl, by omega, by omega⟩
    case round =>
      obtain ⟨k, q, hk, rfl, rfl, hq0, hq1⟩ := hrel
      by_cases hlt : k < len
      · obtain ⟨_, b, off, rfl, hc⟩ := h k hlt
        have hsz := hsm k hlt
        obtain ⟨x, hx⟩ : ∃ x, x = s k := ⟨_, rfl⟩
        rw [← hx] at hc hsz
        clear hx h hsm
        go_wp2
        · go_ret
          exact ⟨_, by omega, rfl, rfl⟩
        · go_round
          case rel => exact ⟨k + 1, _, by omega, by go_num, rfl, by omega, by omega⟩
          case measure => simp [intOf]; omega
      · clear h hsm
        go_wp2
        go_ret
        exact ⟨_, hq0, rfl, rfl⟩

/-! ### one edge -/
def emp (t : ByteArray) : Bool := t.toList.isEmpty
theorem toList_inj {a b : ByteArray} (h : a.toList = b.toList) : a = b := by
  rw [Lib.toList_data, Lib.toList_data] at h
  cases a; cases b
  congr 1
  exact Array.toList_inj.1 h
theorem emp_eq {t : ByteArray} (h : emp t = true) : t = ⟨#[]⟩ := by
  apply toList_inj
  rw [Lib.toList_data ⟨#[]⟩]
  simpa [emp] using h
theorem emp_ne {t : ByteArray} (h : emp t = false) : ¬ t.toList = [] := by
  intro e; unfold emp at h; rw [e] at h; cases h

/-- The attributes of an edge: none where the key is empty, else a map of one entry. -/
def Attr (W : World) (m : Option Nat) (k v : ByteArray) : Prop :=
  (emp k = true ∧ m = none) ∨ (emp k = false ∧ ∃ b, m = some b ∧ OMap W b 1 (upd (fun _ => none) (kof k) (.string v)) 1)
theorem Attr.below {W W' : World} {m : Option Nat} {k v : ByteArray} (h : Attr W m k v) (hb : Below W.heap.size W W') : Attr W' m k v := by
  rcases h with h | ⟨h1, b, rfl, h2⟩
  · exact .inl h
  · exact .inr ⟨h1, b, rfl, h2.below hb h2.lt⟩

theorem OMap.made1 (W : World) (o : Obj) : OMap ((W.alloc o).alloc (.map #[] 0)) (W.heap.size + 1) 0 (fun _ => none) 0 := by
  have := OMap.made (W.alloc o)
  simpa using this
theorem after_put {w w2 : World} {x y z : Value} (hg : ((w.alloc (.cells #[x, y, z] 40)).alloc (.map #[] 0)).grownBy w2 (some (w.heap.size + 1))) :
    w2.cell? ⟨w.heap.size, 0, none⟩ = some x ∧ w2.cell? ⟨w.heap.size, 1, none⟩ = some y ∧ w2.cell? ⟨w.heap.size, 2, none⟩ = some z ∧
    w2.frozen? ⟨w.heap.size, 0, none⟩ = false ∧ w2.frozen? ⟨w.heap.size, 1, none⟩ = false ∧ w2.frozen? ⟨w.heap.size, 2, none⟩ = false ∧ Below w.heap.size w w2 := by
  have hb : w2.heap[w.heap.size]? = some (.cells #[x, y, z] 40 (0, 0)) := by
    rw [hg.block w.heap.size (by simp; omega) (by intro e; injection e with e; omega)]
    rw [Below.heap_alloc _ _ _ (by simp)]
    exact heap_alloc_new w _
  refine ⟨?_, ?_, ?_, frozen_of_row w2 _ _ _ _ hb, frozen_of_row w2 _ _ _ _ hb, frozen_of_row w2 _ _ _ _ hb, ?_⟩
  · rw [cell_of_row w2 _ 0 _ 40 (0, 0) hb]; rfl
  · rw [cell_of_row w2 _ 1 _ 40 (0, 0) hb]; rfl
  · rw [cell_of_row w2 _ 2 _ 40 (0, 0) hb]; rfl
  · exact (((Below.refl _ _).alloc (Nat.le_refl _) _).alloc (by simp) _).grown hg (by simp; omega) (by intro k e; injection e with e; omega)

set_option maxHeartbeats 400000 in
theorem makeEdge_any (f t k v : ByteArray) (w : World) (hk : k.size ≤ maxLen) :
    Calls Try.prog 13 #[.string f, .string t, .string k, .string v] w fun e w' => ∃ m, e = .returned (.agg #[.string f, .string t, .map m]) ∧ Attr w' m k v ∧ Below w.heap.size w w' := by
  have hmm := @run_makeMap Try.prog
  cases h1 : emp k with
  | true =>
    obtain rfl := emp_eq h1
    go_enter Try.func13, Try.ntmps13
    go_wp2
    refine bodyPost_ret (v := .agg #[.string f, .string t, .map none]) (by simp [results, Try.results13, go_sem]) rfl ⟨none, rfl, .inl ⟨h1, rfl⟩, (Below.refl _ _).alloc (Nat.le_refl _) _⟩
  | false =>
    have h2 := emp_ne h1
    have h3 : k.toList.isEmpty = false := h1
    go_enter Try.func13, Try.ntmps13
    go_wp2_with (at_mapUpdate; refine wpList_mput rfl (.tmp 13) (.tmp 14) (.tmp 15) 29 rfl 9 Try.underlying29 (OMap.made1 _ _) (by unfold maxLen; omega) rfl k rfl hk (.string v) rfl ?_; intro w2 hm2 hg2; obtain ⟨c0, c1, c2, d0, d1, d2, hb2⟩ := after_put hg2; clear hg2)
    refine bodyPost_ret (v := .agg #[.string f, .string t, .map (some (w.heap.size + 1))]) ?_ rfl ⟨_, rfl, ?_, ?_⟩
    · have e0 : (((w2.setCell ⟨w.heap.size, 0, none⟩ (.string f)).setCell ⟨w.heap.size, 1, none⟩ (.string t)).setCell ⟨w.heap.size, 2, none⟩ (.map (some (w.heap.size + 1)))).cell? ⟨w.heap.size, 0, none⟩ = some (.string f) := by go_simp
      have e1 : (((w2.setCell ⟨w.heap.size, 0, none⟩ (.string f)).setCell ⟨w.heap.size, 1, none⟩ (.string t)).setCell ⟨w.heap.size, 2, none⟩ (.map (some (w.heap.size + 1)))).cell? ⟨w.heap.size, 1, none⟩ = some (.string t) := by go_simp
      have e2 : (((w2.setCell ⟨w.heap.size, 0, none⟩ (.string f)).setCell ⟨w.heap.size, 1, none⟩ (.string t)).setCell ⟨w.heap.size, 2, none⟩ (.map (some (w.heap.size + 1)))).cell? ⟨w.heap.size, 2, none⟩ = some (.map (some (w.heap.size + 1))) := by go_simp
      simp [results, Try.results13, go_sem, e0, e1, e2]
    · refine .inr ⟨h1, _, rfl, ?_⟩
      exact OMap.of_block hm2 (by rw [Below.heap_setCell _ _ _ _ (by show _ ≠ w.heap.size; omega), Below.heap_setCell _ _ _ _ (by show _ ≠ w.heap.size; omega), Below.heap_setCell _ _ _ _ (by show _ ≠ w.heap.size; omega)])
    · exact ((hb2.setCell (Nat.le_refl _) _).setCell (Nat.le_refl _) _).setCell (Nat.le_refl _) _

theorem zero9 : ∀ W, (zeroValue 9).run Try.prog W = .ok (.string ⟨#[]⟩) W := by
  intro W
  have h : (Try.prog.info? 9).map (fun i => (i.zero, i.size, i.bytes)) = some (some (.string ⟨#[]⟩), 1, 16) := by kernel_rfl
  obtain ⟨i0, hi, h0, _, _⟩ := info_parts h
  simp [zeroValue, typeInfo, hi, h0]
theorem zero3 : ∀ W, (zeroValue 3).run Try.prog W = .ok (.int .i64 0) W := by
  intro W
  have h : (Try.prog.info? 3).map (fun i => (i.zero, i.size, i.bytes)) = some (some (.int .i64 0), 1, 8) := by kernel_rfl
  obtain ⟨i0, hi, h0, _, _⟩ := info_parts h
  simp [zeroValue, typeInfo, hi, h0]
theorem zero26 : ∀ W, (zeroValue 26).run Try.prog W = .ok (.slice none 0 0) W := by
  intro W
  have h : (Try.prog.info? 26).map (fun i => (i.zero, i.size, i.bytes)) = some (some (.slice none 0 0), 1, 24) := by kernel_rfl
  obtain ⟨i0, hi, h0, _, _⟩ := info_parts h
  simp [zeroValue, typeInfo, hi, h0]

set_option maxHeartbeats 400000 in
theorem sameEdge_any (f t k v : ByteArray) (m : Option Nat) (w : World) (hk : k.size ≤ maxLen) (h : Attr w m k v) :
    Calls Try.prog 11 #[.agg #[.string f, .string t, .map m], .string f, .string t, .string k, .string v] w fun e w' => e = .returned (.bool true) ∧ Below w.heap.size w w' := by
  have q29 : ∀ (w : World) r, (binOp .eql 29 (.map r) (.map none)).run Try.prog w = .ok (.bool r.isNone) w := fun w r => run_eql_map_nil w 29 9 9 r Try.underlying29
  rcases h with ⟨h1, rfl⟩ | ⟨h1, b, rfl, hm⟩
  · obtain rfl := emp_eq h1
    go_enter Try.func11, Try.ntmps11
    go_wp2
    go_ret
    exact ⟨rfl, (Below.refl _ _).alloc (Nat.le_refl _) _⟩
  · have h2 := emp_ne h1
    have h3 : k.toList.isEmpty = false := h1
    have hm' := hm.below ((Below.refl w.heap.size w).alloc (Nat.le_refl _) (.cells #[.string f, .string t, .map (some b)] 40)) hm.lt
    have hv : upd (fun _ => none) (kof k) (.string v) (kof k) = some (.string v) := by simp [upd]
    have HV : Hid (upd (fun _ => none) (kof k) (.string v) (kof k) = some (.string v)) := hv
    clear hm hv
    go_enter Try.func11, Try.ntmps11
    go_wp2_with (first
      | (refine wpList_mlen (.tmp 33) 29 rfl (by rfl) 9 Try.underlying29 hm' rfl ?_)
      | (refine wpList_look_ok (.tmp 39) (.tmp 40) 29 rfl (by rfl) 9 (.string ⟨#[]⟩) Try.underlying29 zero9 hm' rfl k rfl hk (.string v) HV.out ?_))
    go_ret
    exact ⟨rfl, (Below.refl _ _).alloc (Nat.le_refl _) _⟩
end Go.Proofs.Qxb6631238a
