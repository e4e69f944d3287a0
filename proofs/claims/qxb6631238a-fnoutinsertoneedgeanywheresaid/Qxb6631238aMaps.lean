/-
  MAPS KEYED BY STRINGS, THAT THE CALL MAKES, BY A PLAIN FUNCTION FROM KEYS TO VALUES: seat b6631238a. Over the kit's 'ownsMap', read by a reader that keeps each value as it lies.
-/
import Derived.Test.Qxb6631238aRows
import Derived.WalkKit
import Derived.Below
import Derived.Maps.Own
import Derived.Maps.OwnSet
import Derived.Maps.Views
import Derived.BigFrame
namespace Go.Proofs.Qxb6631238a
open Go.RowKit Go.Maps Go.WideMaps

/-- The reader that keeps an element's value as it lies. -/
def rawR (v : Value) : Option (DataW Value × List MemPlace) := some (.held v, [])

theorem law9 : Keyed Try.prog 9 := string_keyed Try.underlying9

/-- What a key reads as. -/
def kof (s : ByteArray) : List UInt8 := s.data.toList
theorem kof_inj {a b : ByteArray} (h : kof a = kof b) : a = b := by
  unfold kof at h
  cases a; cases b
  congr 1
  exact Array.toList_inj.1 h

/-- Block b is a map of at most n entries, sz of them, that holds at each key what f says. -/
def OMap (W : World) (b n : Nat) (f : List UInt8 → Option Value) (sz : Nat) : Prop :=
  ∃ D, W.ownsMap Try.prog 9 rawR b n D ∧ Maps.size D = sz ∧ ∀ k : List UInt8, Maps.has D (.string k) = (f k).isSome ∧ ∀ z, D.atKey (.string k) z = (match f k with | some v => .held v | none => z)

def upd (f : List UInt8 → Option Value) (k : List UInt8) (v : Value) : List UInt8 → Option Value := fun x => if x = k then some v else f x

section
variable {W W' : World} {b n sz : Nat} {f : List UInt8 → Option Value}

theorem OMap.made (W : World) : OMap (W.alloc (.map #[] 0)) W.heap.size 0 (fun _ => none) 0 :=
  ⟨.map [], World.ownsMap_made W _ _ _, rfl, fun _ => ⟨rfl, fun _ => rfl⟩⟩
theorem OMap.lt (h : OMap W b n f sz) : b < W.heap.size := by obtain ⟨D, h, _⟩ := h; exact h.lt
theorem OMap.kept {row : Option Nat} (h : OMap W b n f sz) (hg : W.grownBy W' row) (hne : some b ≠ row) : OMap W' b n f sz := by
  obtain ⟨D, h, r⟩ := h; exact ⟨D, h.kept hg hne, r⟩
theorem OMap.of_block (h : OMap W b n f sz) (he : W'.heap[b]? = W.heap[b]?) : OMap W' b n f sz := by
  obtain ⟨D, ⟨es, cl, hb, r1⟩, r⟩ := h; exact ⟨D, ⟨es, cl, he.trans hb, r1⟩, r⟩
theorem OMap.below {B : Nat} (h : OMap W b n f sz) (hb : Below B W W') (hlt : b < B) : OMap W' b n f sz := h.of_block (hb.block b hlt)
theorem OMap.mono {n' : Nat} (h : OMap W b n f sz) (hn : n ≤ n') : OMap W b n' f sz := by
  obtain ⟨D, h, r⟩ := h; exact ⟨D, h.mono hn, r⟩
theorem OMap.congr {f' : List UInt8 → Option Value} {sz' : Nat} (h : OMap W b n f sz) (hf : ∀ k, f k = f' k) (hs : sz = sz') : OMap W b n f' sz' := by
  have : f = f' := funext hf
  subst this; subst hs; exact h
theorem OMap.size_le (h : OMap W b n f sz) : sz ≤ n := by
  obtain ⟨D, h, rfl, _⟩ := h; exact h.size_le

theorem OMap.look {t e : TypeId} {z : Value} (h : OMap W b n f sz) (ht : Try.prog.underlying t = some (.map 9 e)) (hz : (zeroValue e).run Try.prog W = .ok z W) {s : ByteArray} (hs : s.size ≤ maxLen) :
    (Instr.lookup t (.map (some b)) (.string s) false).run Try.prog W = .ok ((f (kof s)).getD z) W := by
  obtain ⟨D, h, _, hf⟩ := h
  obtain ⟨v, ps, hrun, hR⟩ := h.lookup law9 ht hz (zd := .held z) (zp := []) rfl (keyOf_string_mk Try.underlying9 hs)
  rw [(hf s.data.toList).2] at hR
  rw [hrun]
  congr 1
  unfold rawR at hR
  unfold kof
  cases hk : f s.data.toList with
  | none => rw [hk] at hR; simp at hR; simpa using hR.1
  | some u => rw [hk] at hR; simp at hR; simpa using hR.1
theorem OMap.look_ok {t e : TypeId} {z : Value} (h : OMap W b n f sz) (ht : Try.prog.underlying t = some (.map 9 e)) (hz : (zeroValue e).run Try.prog W = .ok z W) {s : ByteArray} (hs : s.size ≤ maxLen) :
    (Instr.lookup t (.map (some b)) (.string s) true).run Try.prog W = .ok (.tuple #[(f (kof s)).getD z, .bool (f (kof s)).isSome]) W := by
  obtain ⟨D, h, _, hf⟩ := h
  obtain ⟨v, ps, hrun, hR⟩ := h.look_ok law9 ht hz (zd := .held z) (zp := []) rfl (keyOf_string_mk Try.underlying9 hs)
  rw [(hf s.data.toList).2] at hR
  rw [(hf s.data.toList).1] at hrun
  rw [hrun]
  unfold rawR at hR
  unfold kof
  cases hk : f s.data.toList with
  | none => rw [hk] at hR; simp at hR; simp [hR.1]
  | some u => rw [hk] at hR; simp at hR; simp [hR.1]
theorem OMap.len {t e : TypeId} (h : OMap W b n f sz) (ht : Try.prog.underlying t = some (.map 9 e)) (ty : TypeId) : (Builtin.len_ #[t] ty #[.map (some b)]).run Try.prog W = .ok (.int .i64 sz) W := by
  obtain ⟨D, h, rfl, _⟩ := h; exact h.len ht ty
theorem OMap.store {t e : TypeId} (h : OMap W b n f sz) (ht : Try.prog.underlying t = some (.map 9 e)) (hn : n < maxLen) {s : ByteArray} (hs : s.size ≤ maxLen) (v : Value) :
    ∃ W', (Instr.mapUpdate t (.map (some b)) (.string s) v).run Try.prog W = .ok () W' ∧ OMap W' b (n + 1) (upd f (kof s) v) (if (f (kof s)).isSome then sz else sz + 1) ∧ W.grownBy W' (some b) := by
  obtain ⟨D, h, rfl, hf⟩ := h
  obtain ⟨W', hrun, h', hg⟩ := h.update law9 ht hn (keyOf_string_mk Try.underlying9 hs) (val := v) (d := .held v) (ps := []) rfl
  have hk : WideAt.IsKeyLit (.string s.data.toList) := trivial
  refine ⟨W', hrun, ⟨_, h', ?_, fun k => ?_⟩, hg⟩
  · rw [Maps.size_put (h.tidy law9), (hf s.data.toList).1]; rfl
  · unfold upd kof
    by_cases e : k = s.data.toList
    · subst e
      rw [if_pos rfl]
      exact ⟨Maps.has_put_same h.isMap hk _, fun z => Maps.atKey_put_same h.isMap hk _ z⟩
    · rw [if_neg e]
      have hne : Lit.string k ≠ .string s.data.toList := fun h => e (by injection h)
      exact ⟨(Maps.has_put_other hne _).trans (hf k).1, fun z => (Maps.atKey_put_other hne _ z).trans ((hf k).2 z)⟩
end

/-! ### at the operations -/
section
variable {W : World} {b n sz : Nat} {f : List UInt8 → Option Value} {ops : Array Oper} {rest : List Oper} {o : Oper} {a : Act} {Q : Exit → Act → World → Prop}

theorem wpList_look (m x : Operand) (t : TypeId) (hop : o.op = Op.lookup t m x false) (hw : Region.wanted o (yielded ops a.tmps) = true) (e : TypeId) (z : Value) (ht : Try.prog.underlying t = some (.map 9 e)) (hz : ∀ W, (zeroValue e).run Try.prog W = .ok z W)
    (h : OMap W b n f sz) (hm : a.eval m = .map (some b)) (s : ByteArray) (hx : a.eval x = .string s) (hs : s.size ≤ maxLen) (v : Value) (hv : (f (kof s)).getD z = v)
    (hK : wpList Try.prog ops Q rest (a.put o.dst v) W) : wpList Try.prog ops Q (o :: rest) a W := by
  refine BigFrame.wpList_want hw fun K hK' => ?_
  have hrun := h.look ht (hz W) hs
  rw [hv] at hrun
  unfold Oper.wp
  simp [execOp, hop, hm, hx, hrun, Result.andThen]
  exact hK' _ _ hK
theorem wpList_look_ok (m x : Operand) (t : TypeId) (hop : o.op = Op.lookup t m x true) (hw : Region.wanted o (yielded ops a.tmps) = true) (e : TypeId) (z : Value) (ht : Try.prog.underlying t = some (.map 9 e)) (hz : ∀ W, (zeroValue e).run Try.prog W = .ok z W)
    (h : OMap W b n f sz) (hm : a.eval m = .map (some b)) (s : ByteArray) (hx : a.eval x = .string s) (hs : s.size ≤ maxLen) (v : Value) (hv : f (kof s) = some v)
    (hK : wpList Try.prog ops Q rest (a.put o.dst (.tuple #[v, .bool true])) W) : wpList Try.prog ops Q (o :: rest) a W := by
  refine BigFrame.wpList_want hw fun K hK' => ?_
  have hrun := h.look_ok ht (hz W) hs
  rw [hv] at hrun
  simp only [Option.getD_some, Option.isSome_some] at hrun
  unfold Oper.wp
  simp [execOp, hop, hm, hx, hrun, Result.andThen]
  exact hK' _ _ hK
theorem wpList_mlen (m : Operand) (t : TypeId) (hop : o.op = Op.call { callee := Callee.builtin Builtin.len, args := #[m], argTypes := #[t] }) (hw : Region.wanted o (yielded ops a.tmps) = true) (e : TypeId) (ht : Try.prog.underlying t = some (.map 9 e))
    (h : OMap W b n f sz) (hm : a.eval m = .map (some b))
    (hK : wpList Try.prog ops Q rest (a.put o.dst (.int .i64 sz)) W) : wpList Try.prog ops Q (o :: rest) a W := by
  refine BigFrame.wpList_want hw fun K hK' => ?_
  have hrun := h.len ht o.type
  unfold Oper.wp
  simp [execOp, hop, resolve, invoke, builtin, hm, hrun, Result.andThen]
  exact hK' _ _ hK
theorem wpList_mput (hg : o.guard = none) (m x v : Operand) (t : TypeId) (hop : o.op = Op.mapUpdate t m x v) (e : TypeId) (ht : Try.prog.underlying t = some (.map 9 e))
    (h : OMap W b n f sz) (hn : n < maxLen) (hm : a.eval m = .map (some b)) (s : ByteArray) (hx : a.eval x = .string s) (hs : s.size ≤ maxLen) (u : Value) (hv : a.eval v = u)
    (hK : ∀ W', OMap W' b (n + 1) (upd f (kof s) u) (if (f (kof s)).isSome then sz else sz + 1) → W.grownBy W' (some b) → wpList Try.prog ops Q rest (a.put o.dst undef) W') : wpList Try.prog ops Q (o :: rest) a W := by
  refine wpList_plain hg fun K hK' => ?_
  obtain ⟨W', hrun, r1, r2⟩ := h.store ht hn hs u
  unfold Oper.wp
  simp [execOp, hop, hm, hx, hv, hrun, Result.andThen]
  exact hK' _ _ (hK W' r1 r2)
end
end Go.Proofs.Qxb6631238a
