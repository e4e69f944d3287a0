/-
  THE MAIN WALK of FnOutInsertOneEdgeAnywhere: its head: seat b6631238a.
-/
import Derived.Test.Qxb6631238aIns36
namespace Go.Proofs.Qxb6631238a
open Go.RowKit Go.Maps

set_option maxRecDepth 20000 in
set_option maxHeartbeats 8000000 in
theorem insert_any (s0 : ByteArray) (b1 : Bool) (a0 a1 a2 a3 : Option Addr) (n n1 n2 n3 p0 p1 p2 p3 : Nat) (F T K V : Nat → ByteArray) (nf nt nk nv : ByteArray) (pos : Int) (w : World)
    (z0 : s0.size ≤ maxLen) (m0 : n ≤ maxLen) (m1 : n1 ≤ maxLen) (m2 : n2 ≤ maxLen) (m3 : n3 ≤ maxLen) (z6 : nf.size ≤ maxLen) (z7 : nt.size ≤ maxLen) (z8 : nk.size ≤ maxLen) (z9 : nv.size ≤ maxLen)
    (hF : Hid (Strs w a0 n F)) (hT : Hid (Strs w a1 n1 T)) (hK : Hid (Strs w a2 n2 K)) (hV : Hid (Strs w a3 n3 V)) :
    Calls Try.prog 4 #[.string s0, .bool b1, .slice a0 n p0, .slice a1 n1 p1, .slice a2 n2 p2, .slice a3 n3 p3, .string nf, .string nt, .string nk, .string nv, .int .i64 pos] w (Yes w) := by
  have E5 := hide (bytes12_any s0 b1 a0 a1 a2 a3 n n1 n2 n3 p0 p1 p2 p3 F T K V nf nt nk nv pos w z0 m0 m1 m2 m3 z6 z7 z8 z9 hF hT hK hV)
  unfold maxLen at m0 m1 m2 m3
  go_enter Try.func4, Try.ntmps4
  go_upto_region 36 with (first
    | (go_at_call 12; refine (unhide E5).mono ?_; rintro e w' ⟨r, rfl, rfl, hsh⟩)
    | (go_at_call 6; refine (addString_any _ _ _ (by omega) (by omega) (by first | exact z0 | exact z6 | exact z7 | exact z8 | exact z9)).mono ?_; rintro e w' ⟨q, hq, rfl, rfl⟩)
    | (go_at_call 7; refine (addBytes_any _ _ _ _ _ _ (by omega) (by omega) (by omega) (by first | exact unhide hF | exact unhide hT | exact unhide hK | exact unhide hV) (by have := (hsh (by simpa using ‹(!r) = false›)); first | exact this.1 | exact this.2.1 | exact this.2.2.1 | exact this.2.2.2)).mono ?_; rintro e w' ⟨q, hq, rfl, rfl⟩))
  any_goals (go_ret; exact Yes.now)
  obtain ⟨c, rfl⟩ := Int.eq_ofNat_of_zero_le (show 0 ≤ pos by omega)
  refine tailI36 s0 b1 a0 a1 a2 a3 n n1 n2 n3 p0 p1 p2 p3 nf nt nk nv c F T K V _ _ (by omega) (by omega) z6 z8 hF hT hK hV ?_
  assumption

end Go.Proofs.Qxb6631238a
