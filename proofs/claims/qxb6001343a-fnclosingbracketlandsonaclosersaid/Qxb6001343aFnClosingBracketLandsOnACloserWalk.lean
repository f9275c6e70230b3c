import Derived.Test.Qxb6001343aClosing
namespace Go.Proofs.Qxb6001343a.Cb
open Go.ChangeShapes Go.WideShapes Go.ChangeAt Go.RowKit
set_option linter.unusedVariables false
set_option linter.unusedSimpArgs false

theorem bytes12 (a0 : ByteArray) (v : Int) (h0 : a0.size ≤ 65536) (w : World) :
    Calls Try.prog 12 #[.string a0, .int .i64 v] w fun e w' => e = .returned (.bool true) ∧ w' = w := by
  go_enter Try.func12, Try.ntmps12
  go_wp2
  go_ret
  exact ⟨rfl, rfl⟩

set_option maxRecDepth 100000 in
set_option maxHeartbeats 1000000 in
theorem lands_main (a0 : ByteArray) (i : Nat) (h0 : a0.size ≤ 65536) (hi : i ≤ a0.size) (w : World) :
    Calls Try.prog 3 #[.string a0, .int .i64 (i : Int)] w fun e w' => e = .returned (.bool true) ∧ Grown w w' := by
  have hd2 : decide ((i : Int) < 0) = false := by simp
  have hd3 : decide ((a0.size : Int) < (i : Int)) = false := by simp; omega
  cases hk : found a0 i with
  | none =>
    have c1 := fun wx => zz_any a0 i hi (by omega) (i : Int) (-1) rfl (by rw [hk]; rfl) wx
    have C1 : Hid _ := c1
    clear c1 hk
    go_enter Try.func3, Try.ntmps3
    go_wp2_with (go_at_call 12; refine (bytes12 a0 i h0 _).mono ?_; rintro e w' ⟨rfl, rfl⟩)
    refine (C1.out _).mono ?_
    rintro e w' ⟨rfl, rfl⟩
    clear C1
    go_wp2_with fail
    go_ret
    exact ⟨rfl, Grown.refl _⟩
  | some k =>
    obtain ⟨m, hm1, hm2, hm3, hcl⟩ := found_at a0 i k hk
    have c1 := fun wx => zz_any a0 i hi (by omega) (i : Int) ((m : Int) + 1) rfl (by rw [hk, res_some]; omega) wx
    have C1 : Hid _ := c1
    have CC : Hid _ := hcl
    clear c1 hk hm2 hcl
    have hne : ((m : Int) + 1 == -1) = false := by simp only [beq_eq_false_iff_ne, ne_eq]; omega
    have hd4 : decide ((m : Int) + 1 ≤ (i : Int)) = false := by simp; omega
    have hd5 : decide ((a0.size : Int) < (m : Int) + 1) = false := by simp; omega
    go_enter Try.func3, Try.ntmps3
    go_wp2_with (go_at_call 12; refine (bytes12 a0 i h0 _).mono ?_; rintro e w' ⟨rfl, rfl⟩)
    refine (C1.out _).mono ?_
    rintro e w' ⟨rfl, rfl⟩
    clear C1
    go_wp2_with fail
    refine (closer_any _ CC.out _).mono ?_
    rintro e w' ⟨rfl, rfl⟩
    go_wp2_with fail
    go_ret
    exact ⟨rfl, Grown.refl _⟩

set_option maxRecDepth 100000 in
set_option maxHeartbeats 1000000 in
theorem lands_walk (a0 : ByteArray) (a1 : Int) (w0 : a0.size ≤ maxLen) (w1 : (Lit.int .i64 a1).wf = true) (w : World) :
    Calls Try.prog 3 #[.string a0, .int .i64 a1] w fun e w' => e = .returned (.bool true) ∧ Grown w w' := by
  unfold maxLen at w0
  by_cases h0 : a0.size ≤ 65536
  · by_cases hn : a1 < 0
    · have hd2 : decide (a1 < 0) = true := by simp; omega
      go_enter Try.func3, Try.ntmps3
      go_wp2
      go_ret
      exact ⟨rfl, Grown.refl _⟩
    · by_cases hg : (a0.size : Int) < a1
      · have hd2 : decide (a1 < 0) = false := by simp; omega
        have hd3 : decide ((a0.size : Int) < a1) = true := by simp; omega
        go_enter Try.func3, Try.ntmps3
        go_wp2
        go_ret
        exact ⟨rfl, Grown.refl _⟩
      · obtain ⟨i, rfl⟩ := Int.eq_ofNat_of_zero_le (by omega : 0 ≤ a1)
        exact lands_main a0 i h0 (by omega) w
  · go_enter Try.func3, Try.ntmps3
    go_wp2
    all_goals go_ret
    all_goals exact ⟨rfl, Grown.refl _⟩
end Go.Proofs.Qxb6001343a.Cb
