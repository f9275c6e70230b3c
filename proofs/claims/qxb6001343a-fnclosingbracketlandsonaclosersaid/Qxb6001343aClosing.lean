import Derived.Test.Qxb6001343aBracket
namespace Go.Proofs.Qxb6001343a.Cb
open Go.ChangeShapes Go.WideShapes Go.ChangeAt Go.RowKit
set_option linter.unusedVariables false
set_option linter.unusedSimpArgs false

/-- What closingBracket finds from place i on, counted from there. -/
def found (s : ByteArray) (i : Nat) : Option Nat := cb (s.size - i) (from_ s i) 0 true

theorem zz_any (s : ByteArray) (i : Nat) (hi : i ≤ s.size) (hs : s.size ≤ 1048576) (v r : Int) (hv : v = (i : Int)) (hr : res i (found s i) = r) (w : World) :
    Calls Try.prog 13 #[.string s, .int .i64 v] w fun e w' => e = .returned (.int .i64 r) ∧ w' = w := by
  subst hv
  subst hr
  go_enter Try.func13, Try.ntmps13
  go_wp2_with (go_at_call 28; refine (bracket_any s i hi _ hs).mono ?_; rintro e w' ⟨rfl, rfl⟩)
  go_ret
  exact ⟨rfl, rfl⟩

/-- The text ahead of s does not matter. -/
theorem found_shift (p s : ByteArray) (i : Nat) : found (p ++ s) (p.size + i) = found s i := by
  unfold found
  have h1 : (p ++ s).size - (p.size + i) = s.size - i := by simp; omega
  have h2 : from_ (p ++ s) (p.size + i) = from_ s i := by
    unfold from_
    have : (p ++ s).data.toList = p.data.toList ++ s.data.toList := by simp [ByteArray.data_append]
    have hl : p.data.toList.length = p.size := by simp
    rw [this, ← hl, List.drop_append, List.drop_of_length_le (by omega), show p.data.toList.length + i - p.data.toList.length = i from by omega]
    rfl
  rw [h1, h2]

/-- Where an answer comes, it lies behind i and within s, and a closer stands there. -/
theorem found_at (s : ByteArray) (i k : Nat) (h : found s i = some k) : ∃ m : Nat, i ≤ m ∧ i + k = m + 1 ∧ ∃ hm : m < s.size, closes s[m] = true := by
  obtain ⟨h1, h2, x, h3, h4⟩ := cb_lands _ _ _ _ _ h
  rw [from_len] at h2
  refine ⟨i + (k - 1), by omega, by omega, by omega, ?_⟩
  unfold from_ at h3
  rw [List.getElem?_drop] at h3
  obtain ⟨hlt, he⟩ := List.getElem?_eq_some_iff.1 h3
  have : s[i + (k - 1)]'(by omega) = x := he
  rw [this]; exact h4

theorem closer_any (c : UInt8) (hb : closes c = true) (w : World) : Calls Try.prog 14 #[.int .u8 (c.toNat : Int)] w fun e w' => e = .returned (.bool true) ∧ w' = w := by
  cases h1 : ((c.toNat : Int) == 93)
  · have e : ((c.toNat : Int) == 125) = true := by
      have : (((c.toNat : Int) == 93) || ((c.toNat : Int) == 125)) = true := hb
      rw [h1] at this; exact this
    clear hb
    go_enter Try.func14, Try.ntmps14
    go_wp2
    go_ret
    exact ⟨rfl, rfl⟩
  · clear hb
    go_enter Try.func14, Try.ntmps14
    go_wp2
    go_ret
    exact ⟨rfl, rfl⟩
end Go.Proofs.Qxb6001343a.Cb
