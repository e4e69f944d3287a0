/-
  THE WALK of outBuildEdges, by contract: seat b6631238a.
-/
import Derived.Test.Qxb6631238aRowLaws
namespace Go.Proofs.Qxb6631238a
open Go.RowKit Go.Maps
theorem hide {p : Prop} (h : p) : Hid p := h
theorem unhide {p : Prop} (h : Hid p) : p := h
theorem info40 : (Try.prog.info? 40).map (fun i => (i.zero, i.size, i.bytes)) = some (some (.agg #[.string ⟨#[]⟩, .string ⟨#[]⟩, .map none]), 3, 40) := by kernel_rfl

theorem ownsRow_pos {w : World} {base : Nat} {e : TypeId} {size : Nat} {v : Value} {n : Nat} {xs : List Value} (h : w.ownsRow base e size v (n + 1) xs) : v ≠ .slice none 0 0 := by
  rcases h.2 with ⟨_, h0⟩ | ⟨g, cap, cur, rfl, _⟩
  · omega
  · simp
theorem build_step {wr w' w'' : World} {B lo k p : Nat} {F T K V : Nat → ByteArray} {ms : Nat → Option Nat} {m : Option Nat} {x0 x1 x2 x3 : ByteArray} {v v' : Value}
    (hp : lo + k = p) (h0 : x0 = F p) (h1 : x1 = T p) (h2 : x2 = K p) (h3 : x3 = V p)
    (hown : wr.ownsRow B 40 3 v k (ecells (fun j => F (lo + j)) (fun j => T (lo + j)) ms k)) (hat : ∀ j, j < k → Attr wr (ms j) (K (lo + j)) (V (lo + j)))
    (hatt : Attr w' m x2 x3) (hbm : Below wr.drew.heap.size wr.drew w') (hg : (w'.alloc (.cells #[.string x0, .string x1, .map m] 40)).grownBy w'' v.ownBlock)
    (hown' : w''.ownsRow B 40 3 v' (k + 1) (ecells (fun j => F (lo + j)) (fun j => T (lo + j)) ms k ++ [.string x0, .string x1, .map m])) :
    w''.ownsRow B 40 3 v' (k + 1) (ecells (fun j => F (lo + j)) (fun j => T (lo + j)) (fun j => if j = k then m else ms j) (k + 1)) ∧ ∀ j, j < k + 1 → Attr w'' ((fun j => if j = k then m else ms j) j) (K (lo + j)) (V (lo + j)) := by
  subst hp h0 h1 h2 h3
  have hrow : ∀ g, v.ownBlock = some g → ∃ c t f, (w'.alloc (.cells #[.string (F (lo + k)), .string (T (lo + k)), .map m] 40)).heap[g]? = some (.cells c t f) := ownsRow_cells ((ownsRow_below (w := wr.drew) hown hbm).alloc _)
  have hal : Below w'.heap.size w' (w'.alloc (.cells #[.string (F (lo + k)), .string (T (lo + k)), .map m] 40)) := (Below.refl _ _).alloc (Nat.le_refl _) _
  constructor
  · rw [ecells]
    simp only [if_true]
    rw [ecells_congr (ms' := ms) (f' := fun j => F (lo + j)) (t' := fun j => T (lo + j)) k (fun j hj => ⟨rfl, rfl, by simp [show j ≠ k by omega]⟩)]
    exact hown'
  · intro j hj
    by_cases e : j = k
    · subst e
      simp only [if_true]
      exact (hatt.below hal).kept hg hrow
    · simp only [if_neg e]
      have a0 : Attr wr.drew (ms j) (K (lo + j)) (V (lo + j)) := hat j (by omega)
      exact ((a0.below hbm).below hal).kept hg hrow

set_option maxHeartbeats 1000000 in
theorem build_any (a0 a1 a2 a3 : Option Addr) (n n1 n2 n3 c0 c1 c2 c3 lo hi : Nat) (F T K V : Nat → ByteArray) (w : World)
    (h0 : Strs w a0 n F) (h1 : Strs w a1 n1 T) (h2 : Strs w a2 n2 K) (h3 : Strs w a3 n3 V) (hlo : lo ≤ hi) (hhi : hi ≤ n) (hn : n ≤ 65536) :
    Calls Try.prog 8 #[.slice a0 n c0, .slice a1 n1 c1, .slice a2 n2 c2, .slice a3 n3 c3, .int .i64 lo, .int .i64 hi] w fun e w' => ∃ v ms, e = .returned v ∧
      w'.ownsRow w.heap.size 40 3 v (hi - lo) (ecells (fun j => F (lo + j)) (fun j => pickF T n1 (lo + j)) ms (hi - lo)) ∧ v ≠ .slice none 0 0 ∧
      (∀ j, j < hi - lo → Attr w' (ms j) (pickF K n2 (lo + j)) (pickF V n3 (lo + j))) ∧ Below w.heap.size w w' := by
  obtain ⟨i0, hi0, hz0, hz1, hz2⟩ := info_parts info40
  go_enter Try.func8, Try.ntmps8
  go_wp2_with (at_make; refine wpList_make_own _ rfl _ _ 26 rfl w.heap.size 40 i0 _ 3 Try.underlying26 hi0 hz0 hz1 .i64 .i64 _ (hi - lo) rfl rfl (by omega) (by rw [hz2]; omega) (by unfold maxLen; omega) (Nat.le_refl _) ?_; intro w1 hown1 hgrow1)
  have hb1 : Below w.heap.size w w1 := (Below.refl _ _).grown hgrow1 (Nat.le_refl _) (by intro k e; cases e)
  clear hgrow1
  have hlh : (lo : Int) ≤ hi := by omega
  have hnn : (hi : Int) ≤ n := by omega
  go_loopw [13, 14] (fun v i wr => ∃ (p k : Nat) (ms : Nat → Option Nat), p ≤ hi ∧ Hid (lo + k = p) ∧ i = .int .i64 p ∧ wr.ownsRow w.heap.size 40 3 v k (ecells (fun j => F (lo + j)) (fun j => pickF T n1 (lo + j)) ms k) ∧ v ≠ .slice none 0 0 ∧
      (∀ j, j < k → Attr wr (ms j) (pickF K n2 (lo + j)) (pickF V n3 (lo + j))) ∧ Below w.heap.size w wr) (fun _ i _ => hi - (intOf i).toNat)
  case atStart => exact ⟨lo, 0, fun _ => none, hlo, rfl, rfl, hown1, by simp, fun j hj => by omega, hb1⟩
  case round =>
    obtain ⟨p, k, ms, hk, HK, rfl, hown, hnn0, hat, hbw⟩ := hrel
    clear hown1 hb1
    by_cases hlt : p < hi
    · obtain ⟨hsz, b, off, rfl, hc⟩ := h0 p (by omega)
      have hcell : ∀ W, Below w.heap.size w W → W.cell? ⟨b, off + p, none⟩ = some (.string (F p)) := fun W hb => (hb.cell (p := ⟨b, off + p, none⟩) (World.block_lt_of_cell? w _ hc)).trans hc
      have hlk : (p : Int) < n := by omega
      have hkn : k ≤ 65536 := by have := HK.out; omega
      go_upto_region 5 with fail
      have E1 : Hid (∀ W, Below w.heap.size w W → Calls Try.prog 10 #[.slice a1 n1 c1, .int .i64 p] W fun e w' => e = .returned (.string (pickF T n1 p)) ∧ w' = W) := fun W hb => pick_any a1 n1 c1 p T W (h1.below hb)
      have E2 : Hid (∀ W, Below w.heap.size w W → Calls Try.prog 10 #[.slice a2 n2 c2, .int .i64 p] W fun e w' => e = .returned (.string (pickF K n2 p)) ∧ w' = W) := fun W hb => pick_any a2 n2 c2 p K W (h2.below hb)
      have E3 : Hid (∀ W, Below w.heap.size w W → Calls Try.prog 10 #[.slice a3 n3 c3, .int .i64 p] W fun e w' => e = .returned (.string (pickF V n3 p)) ∧ w' = W) := fun W hb => pick_any a3 n3 c3 p V W (h3.below hb)
      have E4 : Hid (∀ W, Calls Try.prog 13 #[.string (F p), .string (pickF T n1 p), .string (pickF K n2 p), .string (pickF V n3 p)] W fun e w' => ∃ m, e = .returned (.agg #[.string (F p), .string (pickF T n1 p), .map m]) ∧ Attr w' m (pickF K n2 p) (pickF V n3 p) ∧ Below W.heap.size W w') := fun W => makeEdge_any _ _ _ _ W (pickF_size h2 _)
      clear h0 h1 h2 h3 hc
      obtain ⟨x1, hx1⟩ : ∃ x, Hid (x = pickF T n1 p) := ⟨_, rfl⟩
      obtain ⟨x2, hx2⟩ : ∃ x, Hid (x = pickF K n2 p) := ⟨_, rfl⟩
      obtain ⟨x3, hx3⟩ : ∃ x, Hid (x = pickF V n3 p) := ⟨_, rfl⟩
      obtain ⟨x0, hx0⟩ : ∃ x, Hid (x = F p) := ⟨_, rfl⟩
      rw [← hx0.out, ← hx1.out, ← hx2.out, ← hx3.out] at E4
      rw [← hx1.out] at E1
      rw [← hx2.out] at E2
      rw [← hx3.out] at E3
      rw [← hx0.out] at hcell
      go_region_held3 (fun W => Below w.heap.size w W)
        (first | assumption | exact Below.drew (by assumption) | exact Below.trans (by assumption) (Below.mono (by assumption) (Below.size (by assumption))) | exact Below.alloc (by assumption) (Below.size (by assumption)) _ | exact Below.grown (by assumption) (by assumption) (Below.size (by assumption)) (ownsRow_base hown))
        (first
        | (refine step_append_own rfl (.tmp 25) (.tmp 40) 26 rfl w.heap.size 40 i0 _ 3 40 Try.underlying26 hi0 hz0 hz1 hz2 rfl (by decide) _ k _ rfl ((ownsRow_below (w := wr.drew) hown hbm).alloc _) ⟨_, 0, none⟩ 1 1 [.string x0, .string x1, .map m] rfl rfl (cell_three_new _ _ _ _ _) (by simp [Value.oneCell']) (by unfold maxLen; omega) (by omega) (Nat.le_trans (Below.size (by assumption)) (Nat.le_refl _)) ?_; intro v' w'' hown' hgrow' hloc)
        | (go_at_call_of 10 (Value.slice a1 n1 c1); refine (E1.out _ (by assumption)).mono ?_; rintro e w' ⟨rfl, rfl⟩)
        | (go_at_call_of 10 (Value.slice a2 n2 c2); refine (E2.out _ (by assumption)).mono ?_; rintro e w' ⟨rfl, rfl⟩)
        | (go_at_call_of 10 (Value.slice a3 n3 c3); refine (E3.out _ (by assumption)).mono ?_; rintro e w' ⟨rfl, rfl⟩)
        | (go_at_call 13; refine (E4.out _).mono ?_; rintro e w' ⟨m, rfl, hatt, hbm⟩))
      have R := build_step (lo := lo) (k := k) (F := F) (T := fun j => pickF T n1 j) (K := fun j => pickF K n2 j) (V := fun j => pickF V n3 j) HK.out hx0.out hx1.out hx2.out hx3.out hown hat hatt hbm hgrow' hown'
      have hbl : Below w.heap.size w w'' := by assumption
      clear hnn0
      clear hown hat hatt hbm hgrow' hown' hloc E1 E2 E3 E4
      go_wp2
      go_roundw
      case rel => exact ⟨p + 1, k + 1, fun j => if j = k then m else ms j, by omega, show lo + (k + 1) = p + 1 by have := HK.out; omega, by go_num, R.1, ownsRow_pos R.1, R.2, hbl⟩
      case measure => simp [intOf]; omega
    · obtain rfl : p = hi := by omega
      go_wp2
      go_ret
      have hkk : p - lo = k := by have := HK.out; omega
      rw [hkk]
      exact ⟨_, ms, rfl, hown, hnn0, hat, hbw⟩
end Go.Proofs.Qxb6631238a
