/-
  ROWS OF EDGES (three cells each) THAT THE CALL MAKES, AND THE APPEND AS ONE STEP OF A REGION THAT DRAWS: seat b6631238a. Nothing of the program's walks here.
-/
import Derived.Test.Qxb6631238aWalk1
import Derived.Maps.AppendAt
import Derived.Deep.RegionHeld3
namespace Go.Proofs.Qxb6631238a
open Go.RowKit Go.Maps

theorem ownsRow_below {w w' : World} {base : Nat} {e : TypeId} {size : Nat} {v : Value} {n : Nat} {xs : List Value} (h : w.ownsRow base e size v n xs) (hb : Below w.heap.size w w') : w'.ownsRow base e size v n xs := by
  refine ⟨h.1, ?_⟩
  rcases h.2 with h2 | ⟨g, cap, cur, hv, hg, hh, r⟩
  · exact .inl h2
  · exact .inr ⟨g, cap, cur, hv, hg, (hb.block g (Array.getElem?_eq_some_iff.1 hh).1).trans hh, r⟩

theorem step_append_own {P : Program} {w : World} {ops : Array Oper} {o : Oper} {a : Act} {K : Act → World → Prop} {Q : Exit → Act → World → Prop} {E : Prop} (hgd : o.guard = none) (s x : Operand) (t : TypeId)
    (ho : o.op = .call { callee := .builtin .append, args := #[s, x], argTypes := #[t, t] })
    (base : Nat) (e : TypeId) (i : TypeInfo) (z : Value) (size bytes : Nat) (ht : P.underlying t = some (.slice e)) (hi : P.info? e = some i) (hz : i.zero = some z)
    (hsize : i.size = size) (hby : i.bytes = bytes) (hzs : z.cells.size = size) (hsz : 0 < size)
    (v : Value) (n : Nat) (xs : List Value) (hs : a.eval s = v) (hown : w.ownsRow base e size v n xs)
    (ad : Addr) (m c : Nat) (news : List Value) (hx : a.eval x = .slice (some ad) m c) (hl : news.length = m * size) (hnews : ∀ j u, news[j]? = some u → w.cell? (ad.add j) = some u) (h1 : ∀ u ∈ news, u.oneCell' = true)
    (h63 : n + m ≤ maxLen) (hbytes : (n + m) * bytes ≤ 140737488355328) (hbase : base ≤ w.heap.size)
    (h : ∀ v' w', w'.ownsRow base e size v' (n + m) (xs ++ news) → w.grownBy w' v.ownBlock → (v'.ownBlock = v.ownBlock ∨ v'.ownBlock = some w.heap.size) → K (a.put o.dst v') w') :
    if Region.wanted o (yielded ops a.tmps) = true then Oper.wp P o a w K Q else E := by
  have hw : Region.wanted o (yielded ops a.tmps) = true := by simp [Region.wanted, hgd]
  rw [if_pos hw]
  obtain ⟨v', w', hrun, r1, r2, _, r4⟩ := run_append_own_at (P := P) w base t o.type e i z size bytes ht hi hz hsize hby hzs hsz v n xs hown ad m c news hl hnews h1 h63 hbytes hbase
  unfold Oper.wp
  simp [execOp, ho, resolve, invoke, builtin, hs, hx, hrun, Result.andThen]
  exact h v' w' r1 r2 r4

/-- The three cells of a new block, as the append reads them. -/
theorem cell_three_new (w : World) (x y z : Value) (t : TypeId) : ∀ j u, [x, y, z][j]? = some u → (w.alloc (.cells #[x, y, z] t)).cell? ((⟨w.heap.size, 0, none⟩ : Addr).add j) = some u := by
  intro j u hj
  have hadd : (⟨w.heap.size, 0, none⟩ : Addr).add j = ⟨w.heap.size, j, none⟩ := by unfold Addr.add; split <;> simp_all
  rw [hadd, cell_of_row _ _ j _ t (0, 0) (heap_alloc_new w _)]
  simpa using hj

theorem Attr.kept {W W' : World} {m : Option Nat} {k v : ByteArray} {row : Option Nat} (h : Attr W m k v) (hg : W.grownBy W' row) (hrow : ∀ g, row = some g → ∃ c t f, W.heap[g]? = some (.cells c t f)) : Attr W' m k v := by
  rcases h with h | ⟨h1, b, rfl, h2⟩
  · exact .inl h
  · refine .inr ⟨h1, b, rfl, h2.kept hg ?_⟩
    intro e
    obtain ⟨c, t, f, hc⟩ := hrow b e.symm
    obtain ⟨D, ⟨es, cl, hb, _⟩, _⟩ := h2
    rw [hb] at hc
    cases hc

/-- The row of an owned slice is a block of cells. -/
theorem ownsRow_cells {w : World} {base : Nat} {e : TypeId} {size : Nat} {v : Value} {n : Nat} {xs : List Value} (h : w.ownsRow base e size v n xs) : ∀ g, v.ownBlock = some g → ∃ c t f, w.heap[g]? = some (.cells c t f) := by
  intro g hg
  rcases h.2 with ⟨rfl, _⟩ | ⟨g', cap, cur, rfl, _, hh, _⟩
  · simp [Value.ownBlock] at hg
  · simp [Value.ownBlock] at hg
    subst hg
    exact ⟨cur, e, (0, 0), hh⟩
theorem ownsRow_base {w : World} {base : Nat} {e : TypeId} {size : Nat} {v : Value} {n : Nat} {xs : List Value} (h : w.ownsRow base e size v n xs) : ∀ g, v.ownBlock = some g → base ≤ g := fun g hg => (h.lt g hg).1

/-- The cells of the edges number 0 .. n-1. -/
def ecells (f t : Nat → ByteArray) (ms : Nat → Option Nat) : Nat → List Value
  | 0 => []
  | n + 1 => ecells f t ms n ++ [.string (f n), .string (t n), .map (ms n)]
theorem ecells_length (f t : Nat → ByteArray) (ms : Nat → Option Nat) : ∀ n, (ecells f t ms n).length = n * 3
  | 0 => rfl
  | n + 1 => by simp only [ecells, List.length_append, ecells_length f t ms n, List.length_cons, List.length_nil]; omega
theorem ecells_congr {f t f' t' : Nat → ByteArray} {ms ms' : Nat → Option Nat} : ∀ n, (∀ j, j < n → f j = f' j ∧ t j = t' j ∧ ms j = ms' j) → ecells f t ms n = ecells f' t' ms' n
  | 0, _ => rfl
  | n + 1, h => by
    have hn := h n (by omega)
    simp only [ecells, ecells_congr n (fun j hj => h j (by omega)), hn.1, hn.2.1, hn.2.2]
theorem ecells_get (f t : Nat → ByteArray) (ms : Nat → Option Nat) : ∀ n j, j < n → (ecells f t ms n)[j * 3]? = some (.string (f j)) ∧ (ecells f t ms n)[j * 3 + 1]? = some (.string (t j)) ∧ (ecells f t ms n)[j * 3 + 2]? = some (.map (ms j))
  | n + 1, j, h => by
    have hl := ecells_length f t ms n
    by_cases hj : j < n
    · have ih := ecells_get f t ms n j hj
      simp only [ecells]
      rw [List.getElem?_append_left (by omega), List.getElem?_append_left (by omega), List.getElem?_append_left (by omega)]
      exact ih
    · obtain rfl : j = n := by omega
      simp only [ecells]
      rw [List.getElem?_append_right (by omega), List.getElem?_append_right (by omega), List.getElem?_append_right (by omega), hl,
        show j * 3 - j * 3 = 0 by omega, show j * 3 + 1 - j * 3 = 1 by omega, show j * 3 + 2 - j * 3 = 2 by omega]
      exact ⟨rfl, rfl, rfl⟩
end Go.Proofs.Qxb6631238a
