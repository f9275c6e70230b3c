import Derived.Test.Qxb6601625aRows
import Derived.WalkKit
import Derived.ProofKit
import Derived.OpenShut
import Derived.ShutString
namespace Go.Proofs.Qxb6601625a.Nan
open Go.ChangeShapes Go.WideShapes Go.ChangeAt Go.RowKit
set_option linter.unusedVariables false
set_option linter.unusedSimpArgs false

/-- The digit's value of byte t of s (a byte less '0', round 256), 0 behind the end. -/
def dg (s : ByteArray) (t : Nat) : Int := if h : t < s.size then ((s[t].toNat : Int) - 48) % 256 else 0
theorem dg_of (s : ByteArray) (t : Nat) (h : t < s.size) : dg s t = ((s[t].toNat : Int) - 48) % 256 := dif_pos h
theorem dg_no (s : ByteArray) (t : Nat) (h : ¬ t < s.size) : dg s t = 0 := dif_neg h
theorem dg_bd (s : ByteArray) (t : Nat) : 0 ≤ dg s t ∧ dg s t ≤ 255 := by
  unfold dg
  split <;> omega
/-- What 'nanoseconds' has gathered after k rounds. -/
def nano (s : ByteArray) : Nat → Int
  | 0 => 0
  | k + 1 => nano s k * 10 + dg s k
def p10 : Nat → Int
  | 0 => 1
  | k + 1 => p10 k * 10
theorem p10_bd : ∀ k, k ≤ 9 → 1 ≤ p10 k ∧ p10 k ≤ 1000000000 := by decide
theorem nano_bd (s : ByteArray) : ∀ k, 0 ≤ nano s k ∧ nano s k ≤ 29 * p10 k - 29
  | 0 => by simp [nano, p10]
  | k + 1 => by
    have h := nano_bd s k
    have hd := dg_bd s k
    simp only [nano, p10]
    omega
theorem nano_le (s : ByteArray) (k : Nat) (hk : k ≤ 9) : 0 ≤ nano s k ∧ nano s k ≤ 29000000000 := by
  have h := nano_bd s k
  have hp := p10_bd k hk
  omega
theorem nano_in (s : ByteArray) (k : Nat) (h : k < s.size) : nano s (k + 1) = nano s k * 10 + ((s[k].toNat : Int) - 48) % 256 := by
  rw [← dg_of s k h]; rfl
theorem nano_out (s : ByteArray) (k : Nat) (h : ¬ k < s.size) : nano s (k + 1) = nano s k * 10 := by
  show nano s k * 10 + dg s k = _
  rw [dg_no s k h]; omega
/-- The nine digits decide. -/
theorem nano_congr (s t : ByteArray) : ∀ k, (∀ j, j < k → dg s j = dg t j) → nano s k = nano t k
  | 0, _ => rfl
  | k + 1, h => by
    simp only [nano]
    rw [nano_congr s t k (fun j hj => h j (by omega)), h k (by omega)]
theorem ret_int {k : IntKind} {a b : Int} (h : a = b) : Ending.returned (.int k a) = .returned (.int k b) := by rw [h]

set_option maxHeartbeats 400000 in
theorem nanos_any (s : ByteArray) (w : World) (hs : s.size ≤ maxLen) :
    Calls Try.prog 26 #[.string s] w fun e w' => e = .returned (.int .i64 (nano s 9)) ∧ w' = w := by
  unfold maxLen at hs
  go_enter Try.func26, Try.ntmps26
  go_wp2
  go_loop [3, 5] (fun n i => ∃ k : Nat, k ≤ 9 ∧ i = .int .i64 k ∧ n = .int .i64 (nano s k)) (fun _ i => 9 - (intOf i).toNat)
  case atStart => exact ⟨0, by omega, rfl, rfl⟩
  case round =>
    obtain ⟨k, hk, rfl, rfl⟩ := hrel
    have hn := nano_le s k hk
    by_cases hlt : k < 9
    · by_cases hin : k < s.size
      · have hd := dg_bd s k
        go_wp2
        go_round
        case rel => exact ⟨k + 1, by omega, by go_num, congrArg (Value.int .i64) (nano_in s k hin).symm⟩
        case measure => simp [intOf]; omega
      · go_wp2
        go_round
        case rel => exact ⟨k + 1, by omega, by go_num, congrArg (Value.int .i64) (nano_out s k hin).symm⟩
        case measure => simp [intOf]; omega
    · go_wp2
      go_ret
      exact ⟨ret_int (by rw [show k = 9 from by omega]), rfl⟩

/-- 'ZZnanoseconds' hands on to 'nanoseconds'. -/
theorem zznanos_any (s : ByteArray) (w : World) (hs : s.size ≤ maxLen) :
    Calls Try.prog 20 #[.string s] w fun e w' => e = .returned (.int .i64 (nano s 9)) ∧ w' = w := by
  go_enter Try.func20, Try.ntmps20
  go_wp2_with (go_at_call 26; refine (nanos_any _ _ hs).mono ?_; rintro e w' ⟨rfl, rfl⟩)
  go_ret
  exact ⟨rfl, rfl⟩
end Go.Proofs.Qxb6601625a.Nan
