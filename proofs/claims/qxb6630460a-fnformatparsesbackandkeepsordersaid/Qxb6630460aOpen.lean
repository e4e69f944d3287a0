/-
  AN ARRAY OF 16 BYTES BY VALUE, OPENED: seat b6630460a.
-/
import Derived.Test.Qxb6630460aWalk2
import Derived.ShutString
import Derived.ChangeOld
namespace Go.Proofs.Qxb6630460a
open Go.ChangeShapes Go.WideShapes Go.ChangeAt Go.RowKit

theorem cells22 : Try.prog.cellsOf 22 = 16 := by kernel_rfl
theorem cells5 : Try.prog.cellsOf 5 = 1 := by kernel_rfl

def byteAt (cs : Array Value) (i : Nat) : Int := match cs[i]? with | some (.int _ z) => z | _ => 0

theorem open_id {H : Type} {enc : TypeId × Value → H} {W : World} {base base' : Nat} {sp : Nat → Bool} {held : Bool} {v : Value} {d : DataW H} {p : List MemPlace}
    (hv : Value.okWide Try.prog W .any base' 22 v) (h : DataW.Trod enc Try.prog W base sp held 22 v d p) :
    ∃ b : Nat → Int, v = idV b ∧ ∀ i, i < 16 → 0 ≤ b i ∧ b i < 256 := by
  obtain ⟨cs, rfl, hsz, _⟩ : ∃ cs, v = .agg cs ∧ cs.size = Try.prog.cellsOf 22 ∧ _root_.Go.Row.okWide Try.prog W .any base' 22 cs := by
    simpa [Value.okWide, Try.underlying22] using hv
  rw [cells22] at hsz
  obtain ⟨fuel, hf⟩ := h
  obtain ⟨xs, m, _, _, _, hl, hel⟩ := DataW.trod_array Try.underlying22 hf
  have key : ∀ i, (hi : i < 16) → cs[i]? = some (.int .u8 (byteAt cs i)) ∧ 0 ≤ byteAt cs i ∧ byteAt cs i < 256 := by
    intro i hi
    have e := hel i hi
    rw [cells5, Nat.mul_one, List.getElem?_eq_getElem (by omega)] at e
    obtain ⟨n, e1, _, wn⟩ := DataW.trod_int Try.underlying5 e
    have hb := bounds_u8 wn
    have e2 : cs[i]? = some (.int .u8 n) := by
      have hlt : i < cs.toList.length := by simpa using (by omega : i < cs.size)
      have : (cs.toList.drop i).take 1 = [cs.toList[i]] := by
        rw [List.drop_eq_getElem_cons hlt]; simp
      rw [show (Value.agg cs).cells = cs from rfl, this] at e1
      have e3 : cs.toList[i] = .int .u8 n := by simpa using e1
      rw [Array.getElem?_eq_getElem (by omega)]
      simpa using e3
    have e4 : byteAt cs i = n := by unfold byteAt; rw [e2]
    rw [e4]
    exact ⟨e2, by omega, by omega⟩
  refine ⟨byteAt cs, ?_, fun i hi => (key i hi).2⟩
  have e : cs = (rowF 16 (byteAt cs)).toArray := by
    apply Array.ext_getElem?
    intro i
    by_cases hi : i < 16
    · rw [(key i hi).1]
      have := rowF_get 16 (byteAt cs) i hi
      simpa using this.symm
    · rw [Array.getElem?_eq_none (by omega)]
      have : (rowF 16 (byteAt cs))[i]? = none := List.getElem?_eq_none (by rw [rowF_length]; omega)
      simpa using this.symm
  exact congrArg Value.agg e
end Go.Proofs.Qxb6630460a
