/-
  WALKS of seat b6631238a: the byte counters (zzBytes) of both laws, by contract.
-/
import Derived.Test.Qxb6631238aOut
import Derived.Deep.CutRange
namespace Go.Proofs.Qxb6631238a
open Go.RowKit Go.Maps

/-- All the strings of a slice are short. -/
def Short (len : Nat) (s : Nat → ByteArray) : Prop := ∀ j, j < len → (s j).size ≤ 1048576
theorem Short.zero (s : Nat → ByteArray) : Short 0 s := fun _ h => absurd h (Nat.not_lt_zero _)
theorem Short.succ {k : Nat} {s : Nat → ByteArray} {x : ByteArray} (h : Short k s) (hx : Hid (x = s k)) (hk : x.size ≤ 1048576) : Short (k + 1) s := fun j hj => by
  rcases Nat.lt_or_ge j k with h1 | h1
  · exact h j h1
  · obtain rfl : j = k := by omega
    rw [← unhide hx]; exact hk
theorem Short.upto {k n : Nat} {s : Nat → ByteArray} (h : Short k s) (hk : n ≤ k) : Short n s := fun j hj => h j (by omega)

/-- What the byte counters answer: some truth; where it is true, every string is short. -/
def Counted (n n1 n2 n3 : Nat) (F T K V : Nat → ByteArray) (w : World) (e : Ending) (w' : World) : Prop :=
  ∃ r, e = .returned (.bool r) ∧ w' = w ∧ (r = true → Short n F ∧ Short n1 T ∧ Short n2 K ∧ Short n3 V)
theorem Counted.no {n n1 n2 n3 : Nat} {F T K V : Nat → ByteArray} {w : World} : Counted n n1 n2 n3 F T K V w (.returned (.bool false)) w := ⟨false, rfl, rfl, nofun⟩
theorem Counted.yes {n n1 n2 n3 : Nat} {F T K V : Nat → ByteArray} {w : World} (h0 : Short n F) (h1 : Short n1 T) (h2 : Short n2 K) (h3 : Short n3 V) : Counted n n1 n2 n3 F T K V w (.returned (.bool true)) w := ⟨true, rfl, rfl, fun _ => ⟨h0, h1, h2, h3⟩⟩

set_option maxRecDepth 20000 in
set_option maxHeartbeats 4000000 in
theorem bytes5_any (s0 s1 s2 : ByteArray) (b3 b4 : Bool) (a0 a1 a2 a3 : Option Addr) (n n1 n2 n3 p0 p1 p2 p3 : Nat) (F T K V : Nat → ByteArray) (cut : Int) (w : World)
    (z0 : s0.size ≤ maxLen) (z1 : s1.size ≤ maxLen) (z2 : s2.size ≤ maxLen) (m0 : n ≤ maxLen) (m1 : n1 ≤ maxLen) (m2 : n2 ≤ maxLen) (m3 : n3 ≤ maxLen)
    (hF : Hid (Strs w a0 n F)) (hT : Hid (Strs w a1 n1 T)) (hK : Hid (Strs w a2 n2 K)) (hV : Hid (Strs w a3 n3 V)) :
    Calls Try.prog 5 #[.string s0, .string s1, .string s2, .bool b3, .bool b4, .slice a0 n p0, .slice a1 n1 p1, .slice a2 n2 p2, .slice a3 n3 p3, .int .i64 cut] w (Counted n n1 n2 n3 F T K V w) := by
  unfold maxLen at z0 z1 z2 m0 m1 m2 m3
  go_enter Try.func5, Try.ntmps5
  go_wp2
  iterate 7 (go_ret; exact Counted.no)
  go_loop [21, 22] (fun t i => ∃ (k : Nat) (q : Int), k ≤ n ∧ i = .int .i64 k ∧ t = .int .i64 q ∧ 0 ≤ q ∧ q ≤ 1048576 ∧ Short k F) (fun _ i => n - (intOf i).toNat)
  case atStart => exact ⟨0, _, by omega, rfl, rfl, by omega, by omega, Short.zero _⟩
  case round =>
    obtain ⟨k, q, hk, rfl, rfl, hq0, hq1, hsh⟩ := hrel
    by_cases hlt : k < n
    · obtain ⟨hsz, b, off, rfl, hc⟩ := unhide hF k hlt
      obtain ⟨x, hx⟩ : ∃ x, Hid (x = F k) := ⟨_, rfl⟩
      rw [← unhide hx] at hc hsz
      unfold maxLen at hsz
      go_wp2
      · go_ret; exact Counted.no
      · go_ret; exact Counted.no
      · go_round
        case rel => exact ⟨k + 1, _, by omega, by go_num, rfl, by omega, by omega, Short.succ hsh hx (by omega)⟩
        case measure => simp [intOf]; omega
    · have hs0 : Short n F := Short.upto hsh (by omega)
      clear hsh hF
      go_wp2
      iterate 2 (go_ret; exact Counted.no)
      go_loop [21, 23] (fun t i => ∃ (k : Nat) (q : Int), k ≤ n1 ∧ i = .int .i64 k ∧ t = .int .i64 q ∧ 0 ≤ q ∧ q ≤ 1048576 ∧ Short k T) (fun _ i => n1 - (intOf i).toNat)
      case atStart => exact ⟨0, _, by omega, rfl, rfl, by omega, by omega, Short.zero _⟩
      case round =>
        obtain ⟨k, q, hk, rfl, rfl, hq0, hq1, hsh⟩ := hrel
        by_cases hlt : k < n1
        · obtain ⟨hsz, b, off, rfl, hc⟩ := unhide hT k hlt
          obtain ⟨x, hx⟩ : ∃ x, Hid (x = T k) := ⟨_, rfl⟩
          rw [← unhide hx] at hc hsz
          unfold maxLen at hsz
          go_wp2
          · go_ret; exact Counted.no
          · go_ret; exact Counted.no
          · go_round
            case rel => exact ⟨k + 1, _, by omega, by go_num, rfl, by omega, by omega, Short.succ hsh hx (by omega)⟩
            case measure => simp [intOf]; omega
        · have hs1 : Short n1 T := Short.upto hsh (by omega)
          clear hsh hT
          go_wp2
          iterate 2 (go_ret; exact Counted.no)
          go_loop [21, 24] (fun t i => ∃ (k : Nat) (q : Int), k ≤ n2 ∧ i = .int .i64 k ∧ t = .int .i64 q ∧ 0 ≤ q ∧ q ≤ 1048576 ∧ Short k K) (fun _ i => n2 - (intOf i).toNat)
          case atStart => exact ⟨0, _, by omega, rfl, rfl, by omega, by omega, Short.zero _⟩
          case round =>
            obtain ⟨k, q, hk, rfl, rfl, hq0, hq1, hsh⟩ := hrel
            by_cases hlt : k < n2
            · obtain ⟨hsz, b, off, rfl, hc⟩ := unhide hK k hlt
              obtain ⟨x, hx⟩ : ∃ x, Hid (x = K k) := ⟨_, rfl⟩
              rw [← unhide hx] at hc hsz
              unfold maxLen at hsz
              go_wp2
              · go_ret; exact Counted.no
              · go_ret; exact Counted.no
              · go_round
                case rel => exact ⟨k + 1, _, by omega, by go_num, rfl, by omega, by omega, Short.succ hsh hx (by omega)⟩
                case measure => simp [intOf]; omega
            · have hs2 : Short n2 K := Short.upto hsh (by omega)
              clear hsh hK
              go_wp2
              iterate 2 (go_ret; exact Counted.no)
              go_loop [21, 25] (fun t i => ∃ (k : Nat) (q : Int), k ≤ n3 ∧ i = .int .i64 k ∧ t = .int .i64 q ∧ 0 ≤ q ∧ q ≤ 1048576 ∧ Short k V) (fun _ i => n3 - (intOf i).toNat)
              case atStart => exact ⟨0, _, by omega, rfl, rfl, by omega, by omega, Short.zero _⟩
              case round =>
                obtain ⟨k, q, hk, rfl, rfl, hq0, hq1, hsh⟩ := hrel
                by_cases hlt : k < n3
                · obtain ⟨hsz, b, off, rfl, hc⟩ := unhide hV k hlt
                  obtain ⟨x, hx⟩ : ∃ x, Hid (x = V k) := ⟨_, rfl⟩
                  rw [← unhide hx] at hc hsz
                  unfold maxLen at hsz
                  go_wp2
                  · go_ret; exact Counted.no
                  · go_ret; exact Counted.no
                  · go_round
                    case rel => exact ⟨k + 1, _, by omega, by go_num, rfl, by omega, by omega, Short.succ hsh hx (by omega)⟩
                    case measure => simp [intOf]; omega
                · have hs3 : Short n3 V := Short.upto hsh (by omega)
                  clear hsh hV
                  go_wp2
                  go_ret; exact Counted.yes hs0 hs1 hs2 hs3

set_option maxRecDepth 20000 in
set_option maxHeartbeats 4000000 in
theorem bytes12_any (s0 : ByteArray) (b1 : Bool) (a0 a1 a2 a3 : Option Addr) (n n1 n2 n3 p0 p1 p2 p3 : Nat) (F T K V : Nat → ByteArray) (s6 s7 s8 s9 : ByteArray) (pos : Int) (w : World)
    (z0 : s0.size ≤ maxLen) (m0 : n ≤ maxLen) (m1 : n1 ≤ maxLen) (m2 : n2 ≤ maxLen) (m3 : n3 ≤ maxLen) (z6 : s6.size ≤ maxLen) (z7 : s7.size ≤ maxLen) (z8 : s8.size ≤ maxLen) (z9 : s9.size ≤ maxLen)
    (hF : Hid (Strs w a0 n F)) (hT : Hid (Strs w a1 n1 T)) (hK : Hid (Strs w a2 n2 K)) (hV : Hid (Strs w a3 n3 V)) :
    Calls Try.prog 12 #[.string s0, .bool b1, .slice a0 n p0, .slice a1 n1 p1, .slice a2 n2 p2, .slice a3 n3 p3, .string s6, .string s7, .string s8, .string s9, .int .i64 pos] w (Counted n n1 n2 n3 F T K V w) := by
  unfold maxLen at z0 z6 z7 z8 z9 m0 m1 m2 m3
  go_enter Try.func12, Try.ntmps12
  go_wp2
  iterate 3 (go_ret; exact Counted.no)
  go_loop [23, 24] (fun t i => ∃ (k : Nat) (q : Int), k ≤ n ∧ i = .int .i64 k ∧ t = .int .i64 q ∧ 0 ≤ q ∧ q ≤ 1048576 ∧ Short k F) (fun _ i => n - (intOf i).toNat)
  case atStart => exact ⟨0, _, by omega, rfl, rfl, by omega, by omega, Short.zero _⟩
  case round =>
    obtain ⟨k, q, hk, rfl, rfl, hq0, hq1, hsh⟩ := hrel
    by_cases hlt : k < n
    · obtain ⟨hsz, b, off, rfl, hc⟩ := unhide hF k hlt
      obtain ⟨x, hx⟩ : ∃ x, Hid (x = F k) := ⟨_, rfl⟩
      rw [← unhide hx] at hc hsz
      unfold maxLen at hsz
      go_wp2
      · go_ret; exact Counted.no
      · go_ret; exact Counted.no
      · go_round
        case rel => exact ⟨k + 1, _, by omega, by go_num, rfl, by omega, by omega, Short.succ hsh hx (by omega)⟩
        case measure => simp [intOf]; omega
    · have hs0 : Short n F := Short.upto hsh (by omega)
      clear hsh hF
      go_wp2
      iterate 2 (go_ret; exact Counted.no)
      go_loop [23, 25] (fun t i => ∃ (k : Nat) (q : Int), k ≤ n1 ∧ i = .int .i64 k ∧ t = .int .i64 q ∧ 0 ≤ q ∧ q ≤ 1048576 ∧ Short k T) (fun _ i => n1 - (intOf i).toNat)
      case atStart => exact ⟨0, _, by omega, rfl, rfl, by omega, by omega, Short.zero _⟩
      case round =>
        obtain ⟨k, q, hk, rfl, rfl, hq0, hq1, hsh⟩ := hrel
        by_cases hlt : k < n1
        · obtain ⟨hsz, b, off, rfl, hc⟩ := unhide hT k hlt
          obtain ⟨x, hx⟩ : ∃ x, Hid (x = T k) := ⟨_, rfl⟩
          rw [← unhide hx] at hc hsz
          unfold maxLen at hsz
          go_wp2
          · go_ret; exact Counted.no
          · go_ret; exact Counted.no
          · go_round
            case rel => exact ⟨k + 1, _, by omega, by go_num, rfl, by omega, by omega, Short.succ hsh hx (by omega)⟩
            case measure => simp [intOf]; omega
        · have hs1 : Short n1 T := Short.upto hsh (by omega)
          clear hsh hT
          go_wp2
          iterate 2 (go_ret; exact Counted.no)
          go_loop [23, 26] (fun t i => ∃ (k : Nat) (q : Int), k ≤ n2 ∧ i = .int .i64 k ∧ t = .int .i64 q ∧ 0 ≤ q ∧ q ≤ 1048576 ∧ Short k K) (fun _ i => n2 - (intOf i).toNat)
          case atStart => exact ⟨0, _, by omega, rfl, rfl, by omega, by omega, Short.zero _⟩
          case round =>
            obtain ⟨k, q, hk, rfl, rfl, hq0, hq1, hsh⟩ := hrel
            by_cases hlt : k < n2
            · obtain ⟨hsz, b, off, rfl, hc⟩ := unhide hK k hlt
              obtain ⟨x, hx⟩ : ∃ x, Hid (x = K k) := ⟨_, rfl⟩
              rw [← unhide hx] at hc hsz
              unfold maxLen at hsz
              go_wp2
              · go_ret; exact Counted.no
              · go_ret; exact Counted.no
              · go_round
                case rel => exact ⟨k + 1, _, by omega, by go_num, rfl, by omega, by omega, Short.succ hsh hx (by omega)⟩
                case measure => simp [intOf]; omega
            · have hs2 : Short n2 K := Short.upto hsh (by omega)
              clear hsh hK
              go_wp2
              iterate 2 (go_ret; exact Counted.no)
              go_loop [23, 27] (fun t i => ∃ (k : Nat) (q : Int), k ≤ n3 ∧ i = .int .i64 k ∧ t = .int .i64 q ∧ 0 ≤ q ∧ q ≤ 1048576 ∧ Short k V) (fun _ i => n3 - (intOf i).toNat)
              case atStart => exact ⟨0, _, by omega, rfl, rfl, by omega, by omega, Short.zero _⟩
              case round =>
                obtain ⟨k, q, hk, rfl, rfl, hq0, hq1, hsh⟩ := hrel
                by_cases hlt : k < n3
                · obtain ⟨hsz, b, off, rfl, hc⟩ := unhide hV k hlt
                  obtain ⟨x, hx⟩ : ∃ x, Hid (x = V k) := ⟨_, rfl⟩
                  rw [← unhide hx] at hc hsz
                  unfold maxLen at hsz
                  go_wp2
                  · go_ret; exact Counted.no
                  · go_ret; exact Counted.no
                  · go_round
                    case rel => exact ⟨k + 1, _, by omega, by go_num, rfl, by omega, by omega, Short.succ hsh hx (by omega)⟩
                    case measure => simp [intOf]; omega
                · have hs3 : Short n3 V := Short.upto hsh (by omega)
                  clear hsh hV
                  go_wp2
                  iterate 8 (go_ret; exact Counted.no)
                  go_ret; exact Counted.yes hs0 hs1 hs2 hs3

end Go.Proofs.Qxb6631238a
