/-
  A GRAPH IN MEMORY: seat b6631238a. What outBuildEdges lays and what Out reads, in one word (Graph), and Out's contract over it.
-/
import Derived.Test.Qxb6631238aPart
namespace Go.Proofs.Qxb6631238a
open Go.RowKit Go.Maps

/-- At gp lies a Graph whose Edges are n edges with these Froms, Tos and attributes. -/
def Graph (W : World) (gp : Nat) (F T K V : Nat → ByteArray) (n : Nat) : Prop :=
  ∃ (g cap : Nat) (ms : Nat → Option Nat), W.cell? ⟨gp, 7, none⟩ = some (.slice (some ⟨g, 0, none⟩) n cap) ∧
    (∀ j, j < n → W.cell? ⟨g, j * 3, none⟩ = some (.string (F j)) ∧ W.cell? ⟨g, j * 3 + 1, none⟩ = some (.string (T j)) ∧ W.cell? ⟨g, j * 3 + 2, none⟩ = some (.map (ms j))) ∧
    ∀ j, j < n → Attr W (ms j) (K j) (V j)
theorem cell_below {W W' : World} {b o : Nat} {v : Value} (h : W.cell? ⟨b, o, none⟩ = some v) (hb : Below W.heap.size W W') : W'.cell? ⟨b, o, none⟩ = some v :=
  (hb.cell (p := ⟨b, o, none⟩) (World.block_lt_of_cell? W _ h)).trans h
theorem Graph.below {W W' : World} {gp n : Nat} {F T K V : Nat → ByteArray} (h : Graph W gp F T K V n) (hb : Below W.heap.size W W') : Graph W' gp F T K V n := by
  obtain ⟨g, cap, ms, h1, h2, h3⟩ := h
  exact ⟨g, cap, ms, cell_below h1 hb, fun j hj => ⟨cell_below (h2 j hj).1 hb, cell_below (h2 j hj).2.1 hb, cell_below (h2 j hj).2.2 hb⟩, fun j hj => (h3 j hj).below hb⟩
theorem Graph.new {W : World} {g cap n : Nat} {F T K V : Nat → ByteArray} {ms : Nat → Option Nat}
    (h : ∀ j, j < n → W.cell? ⟨g, j * 3, none⟩ = some (.string (F j)) ∧ W.cell? ⟨g, j * 3 + 1, none⟩ = some (.string (T j)) ∧ W.cell? ⟨g, j * 3 + 2, none⟩ = some (.map (ms j)))
    (ha : ∀ j, j < n → Attr W (ms j) (K j) (V j)) (c0 c1 c2 c3 c4 c5 c6 : Value) :
    Graph (W.alloc (.cells #[c0, c1, c2, c3, c4, c5, c6, .slice (some ⟨g, 0, none⟩) n cap] 32)) W.heap.size F T K V n := by
  have hb : Below W.heap.size W (W.alloc (.cells #[c0, c1, c2, c3, c4, c5, c6, .slice (some ⟨g, 0, none⟩) n cap] 32)) := (Below.refl _ _).alloc (Nat.le_refl _) _
  refine ⟨g, cap, ms, ?_, fun j hj => ⟨cell_below (h j hj).1 hb, cell_below (h j hj).2.1 hb, cell_below (h j hj).2.2 hb⟩, fun j hj => (ha j hj).below hb⟩
  rw [cell_of_row _ _ 7 _ 32 (0, 0) (heap_alloc_new W _)]; rfl
theorem Graph.congr {W : World} {gp n : Nat} {F T K V F' T' K' V' : Nat → ByteArray} (h : Graph W gp F T K V n) (h0 : ∀ j, j < n → F j = F' j) (h1 : ∀ j, j < n → T j = T' j) (h2 : ∀ j, j < n → K j = K' j) (h3 : ∀ j, j < n → V j = V' j) : Graph W gp F' T' K' V' n := by
  obtain ⟨g, cap, ms, a, b, c⟩ := h
  exact ⟨g, cap, ms, a, fun j hj => by rw [← h0 j hj, ← h1 j hj]; exact b j hj, fun j hj => by rw [← h2 j hj, ← h3 j hj]; exact c j hj⟩

theorem outG_any {gp n : Nat} {F T K V : Nat → ByteArray} {w : World} (h : Graph w gp F T K V n) (hn : n ≤ 65537) (hF : ∀ j, j < n → (F j).size ≤ maxLen) :
    Calls Try.prog 9 #[.pointer (some ⟨gp, 0, none⟩)] w fun e w' => ∃ f, e = .returned (.map (some w.heap.size)) ∧ Part w' w.heap.size F T K V n f ∧ Below w.heap.size w w' := by
  obtain ⟨g, cap, ms, h1, h2, h3⟩ := h
  refine (out_any gp g n cap F T ms w h1 hn h2 hF).mono ?_
  rintro e w' ⟨f, he, hI, hb⟩
  exact ⟨f, he, ⟨ms, hI, fun j hj => (h3 j hj).below hb⟩, hb⟩

/-- outBuildEdges, told in the words of Graph. -/
theorem buildG_any (a0 a1 a2 a3 : Option Addr) (n n1 n2 n3 c0 c1 c2 c3 : Nat) (F T K V : Nat → ByteArray) (lo hi : Nat) (w W : World) (hb : Below w.heap.size w W)
    (h0 : Strs w a0 n F) (h1 : Strs w a1 n1 T) (h2 : Strs w a2 n2 K) (h3 : Strs w a3 n3 V) (hlo : lo ≤ hi) (hhi : hi ≤ n) (hn : n ≤ 65536) :
    Calls Try.prog 8 #[.slice a0 n c0, .slice a1 n1 c1, .slice a2 n2 c2, .slice a3 n3 c3, .int .i64 lo, .int .i64 hi] W fun e w' => ∃ g cap, e = .returned (.slice (some ⟨g, 0, none⟩) (hi - lo) cap) ∧ Below w.heap.size w w' ∧ Below W.heap.size W w' ∧
      ∀ c0 c1 c2 c3 c4 c5 c6 : Value, Graph (w'.alloc (.cells #[c0, c1, c2, c3, c4, c5, c6, .slice (some ⟨g, 0, none⟩) (hi - lo) cap] 32)) w'.heap.size (fun j => F (lo + j)) (fun j => pickF T n1 (lo + j)) (fun j => pickF K n2 (lo + j)) (fun j => pickF V n3 (lo + j)) (hi - lo) := by
  refine (build_any a0 a1 a2 a3 n n1 n2 n3 c0 c1 c2 c3 lo hi F T K V W (h0.below hb) (h1.below hb) (h2.below hb) (h3.below hb) hlo hhi hn).mono ?_
  rintro e w' ⟨v, ms, rfl, hrow, hnn, hat, hbl⟩
  obtain ⟨g, cap, rfl, hc⟩ := row_open hrow hnn
  exact ⟨g, cap, rfl, hb.trans (hbl.mono hb.size), hbl, fun _ _ _ _ _ _ _ => Graph.new hc hat _ _ _ _ _ _ _⟩
end Go.Proofs.Qxb6631238a
