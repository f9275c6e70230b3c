import Derived.Test.Qxb6601625aNanos
namespace Go.Proofs.Qxb6601625a.PlaceW
open Go.ChangeShapes Go.WideShapes Go.ChangeAt Go.RowKit
set_option linter.unusedVariables false
set_option linter.unusedSimpArgs false

/-- The sum of the last c of the nine places: place 8 - t bears 10 ^ t. -/
def suf (s : ByteArray) : Nat → Int
  | 0 => 0
  | c + 1 => suf s c + Nan.dg s (8 - c) * Nan.p10 c
theorem suf_nine (s : ByteArray) : suf s 9 = Nan.nano s 9 := by
  simp [suf, Nan.nano, Nan.p10]
  omega
theorem suf_zero (s : ByteArray) : ∀ c, c + s.size ≤ 9 → suf s c = 0
  | 0, _ => rfl
  | c + 1, h => by
    simp only [suf]
    rw [suf_zero s c (by omega), Nan.dg_no s (8 - c) (by omega)]
    omega
theorem mul_bd {a b A B : Int} (h0 : 0 ≤ a) (h1 : a ≤ A) (h2 : 0 ≤ b) (h3 : b ≤ B) : 0 ≤ a * b ∧ a * b ≤ A * B :=
  ⟨Int.mul_nonneg h0 h2, Int.mul_le_mul h1 h3 h2 (by omega)⟩
theorem suf_bd (s : ByteArray) : ∀ c, c ≤ 9 → 0 ≤ suf s c ∧ suf s c ≤ 255000000000 * c
  | 0, _ => by simp [suf]
  | c + 1, h => by
    have hi := suf_bd s c (by omega)
    have hp := Nan.p10_bd c (by omega)
    have hd := Nan.dg_bd s (8 - c)
    have hm := mul_bd hd.1 hd.2 (by omega) hp.2
    simp only [suf]
    omega

theorem suf_zero' (s : ByteArray) (c m : Nat) (h : c + m = 9) (hm : m = 9 ∨ m = s.size) : suf s c = 0 := by
  rcases hm with h9 | hs
  · rw [show c = 0 from by omega]; rfl
  · exact suf_zero s c (by omega)
theorem digit_bd (s : ByteArray) (c u : Nat) (hu : u < s.size) (hc : c ≤ 8) : 0 ≤ ((s[u].toNat : Int) - 48) % 256 * Nan.p10 c ∧ ((s[u].toNat : Int) - 48) % 256 * Nan.p10 c ≤ 255 * 1000000000 := by
  have hp := Nan.p10_bd c (by omega)
  exact mul_bd (by omega) (by omega) (by omega) hp.2

theorem suf_step (s : ByteArray) (c u : Nat) (hu : u < s.size) (h : c + u = 8) : suf s (c + 1) = suf s c + ((s[u].toNat : Int) - 48) % 256 * Nan.p10 c := by
  rw [← Nan.dg_of s u hu]
  simp only [suf]
  rw [show 8 - c = u from by omega]

set_option maxHeartbeats 400000 in
theorem model_any (s : ByteArray) (w : World) (hs : s.size ≤ 1048576) :
    Calls Try.prog 21 #[.string s] w fun e w' => e = .returned (.int .i64 (Nan.nano s 9)) ∧ w' = w := by
  by_cases hbig : 9 < s.size
  · go_enter Try.func21, Try.ntmps21
    go_wp2_with fail
    go_loop [4, 5] (fun p k => ∃ c : Nat, c + 9 ≤ 9 ∧ k = .int .i64 c ∧ p = .int .i64 (Nan.p10 c)) (fun _ k => 9 - (intOf k).toNat)
    case atStart => exact ⟨0, by omega, rfl, rfl⟩
    case round =>
      obtain ⟨c, hc, rfl, rfl⟩ := hrel
      have hp := Nan.p10_bd c (by omega)
      by_cases hlt : c + 9 < 9
      · exfalso; omega
      · go_wp2_with fail
        go_loop [4, 6, 7] (fun p n i => ∃ (c t : Nat), c + t = 9 ∧ t ≤ 9 ∧ i = .int .i64 ((t : Int) - 1) ∧ p = .int .i64 (Nan.p10 c) ∧ n = .int .i64 (suf s c)) (fun _ _ i => (intOf i + 1).toNat)
        case atStart => exact ⟨c, 9, by omega, by omega, rfl, rfl, congrArg (Value.int .i64) (suf_zero' s c 9 (by omega) (by omega)).symm⟩
        case round =>
          obtain ⟨c2, t, hct, ht, rfl, rfl, rfl⟩ := hrel
          have HC : Hid _ := hct
          clear hct hp hlt hc
          match t, HC, ht with
          | 0, HC, _ =>
            go_wp2_with fail
            go_ret
            have hc9 : c2 = 9 := by have := HC.out; omega
            exact ⟨Nan.ret_int (by rw [hc9]; exact suf_nine s), rfl⟩
          | u + 1, HC, ht =>
            rw [show (((u + 1 : Nat) : Int) - 1) = (u : Int) from by omega]
            have hc8 : c2 ≤ 8 := by have := HC.out; omega
            have hp2 := Nan.p10_bd c2 (by omega)
            have hsf := suf_bd s c2 (by omega)
            have hus : u < s.size := by omega
            have hmb := digit_bd s c2 u hus hc8
            go_wp2_with fail
            go_round
            case rel => exact ⟨c2 + 1, u, by have := HC.out; omega, by omega, rfl, rfl, congrArg (Value.int .i64) (suf_step s c2 u hus (by have := HC.out; omega)).symm⟩
            case measure => simp [intOf]
  · go_enter Try.func21, Try.ntmps21
    go_wp2_with fail
    go_loop [4, 5] (fun p k => ∃ c : Nat, c + s.size ≤ 9 ∧ k = .int .i64 c ∧ p = .int .i64 (Nan.p10 c)) (fun _ k => 9 - (intOf k).toNat)
    case atStart => exact ⟨0, by omega, rfl, rfl⟩
    case round =>
      obtain ⟨c, hc, rfl, rfl⟩ := hrel
      have hp := Nan.p10_bd c (by omega)
      by_cases hlt : c + s.size < 9
      · go_wp2_with fail
        go_round
        case rel => exact ⟨c + 1, by omega, by go_num, rfl⟩
        case measure => simp [intOf]; omega
      · go_wp2_with fail
        go_loop [4, 6, 7] (fun p n i => ∃ (c t : Nat), c + t = 9 ∧ t ≤ s.size ∧ i = .int .i64 ((t : Int) - 1) ∧ p = .int .i64 (Nan.p10 c) ∧ n = .int .i64 (suf s c)) (fun _ _ i => (intOf i + 1).toNat)
        case atStart => exact ⟨c, s.size, by omega, by omega, by go_num, rfl, congrArg (Value.int .i64) (suf_zero' s c s.size (by omega) (by omega)).symm⟩
        case round =>
          obtain ⟨c2, t, hct, ht, rfl, rfl, rfl⟩ := hrel
          have HC : Hid _ := hct
          clear hct hp hlt hc
          match t, HC, ht with
          | 0, HC, _ =>
            go_wp2_with fail
            go_ret
            have hc9 : c2 = 9 := by have := HC.out; omega
            exact ⟨Nan.ret_int (by rw [hc9]; exact suf_nine s), rfl⟩
          | u + 1, HC, ht =>
            rw [show (((u + 1 : Nat) : Int) - 1) = (u : Int) from by omega]
            have hc8 : c2 ≤ 8 := by have := HC.out; omega
            have hp2 := Nan.p10_bd c2 (by omega)
            have hsf := suf_bd s c2 (by omega)
            have hus : u < s.size := by omega
            have hmb := digit_bd s c2 u hus hc8
            go_wp2_with fail
            go_round
            case rel => exact ⟨c2 + 1, u, by have := HC.out; omega, by omega, rfl, rfl, congrArg (Value.int .i64) (suf_step s c2 u hus (by have := HC.out; omega)).symm⟩
            case measure => simp [intOf]

theorem walk (a0 : ByteArray) (w0 : a0.size ≤ maxLen) (w : World) :
    Calls Try.prog 8 #[.string a0] w fun e w' => e = .returned (.bool true) ∧ Grown w w' := by
  by_cases h : a0.size ≤ 1048576
  · go_enter Try.func8, Try.ntmps8
    go_wp2_with (first
      | (go_at_call 20; refine (Nan.zznanos_any _ _ w0).mono ?_; rintro e w' ⟨rfl, rfl⟩)
      | (go_at_call 21; refine (model_any _ _ h).mono ?_; rintro e w' ⟨rfl, rfl⟩)
      | go_in)
    go_ret
    exact ⟨rfl, Grown.refl _⟩
  · go_enter Try.func8, Try.ntmps8
    go_wp2
    all_goals go_ret
    all_goals exact ⟨rfl, Grown.refl _⟩
end Go.Proofs.Qxb6601625a.PlaceW
