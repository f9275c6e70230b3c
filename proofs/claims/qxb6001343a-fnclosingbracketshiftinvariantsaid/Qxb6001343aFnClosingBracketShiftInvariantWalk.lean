import Derived.Test.Qxb6001343aClosing
namespace Go.Proofs.Qxb6001343a.Cb
open Go.ChangeShapes Go.WideShapes Go.ChangeAt Go.RowKit
set_option linter.unusedVariables false
set_option linter.unusedSimpArgs false

theorem bytes16 (a0 a1 : ByteArray) (v : Int) (h0 : a0.size ≤ 65536) (h1 : a1.size ≤ 65536) (w : World) :
    Calls Try.prog 16 #[.string a0, .string a1, .int .i64 v] w fun e w' => e = .returned (.bool true) ∧ w' = w := by
  go_enter Try.func16, Try.ntmps16
  go_wp2
  go_ret
  exact ⟨rfl, rfl⟩

set_option maxRecDepth 100000 in
set_option maxHeartbeats 1000000 in
theorem shift_main (a0 a1 : ByteArray) (i : Nat) (h0 : a0.size ≤ 65536) (h1 : a1.size ≤ 65536) (hi : i ≤ a1.size) (w : World) :
    Calls Try.prog 5 #[.string a0, .string a1, .int .i64 (i : Int)] w fun e w' => e = .returned (.bool true) ∧ Grown w w' := by
  have hd0 : decide (65536 < (a0.size : Int)) = false := by simp; omega
  have hd1 : decide (65536 < (a1.size : Int)) = false := by simp; omega
  have hd2 : decide ((i : Int) < 0) = false := by simp
  have hd3 : decide ((a1.size : Int) < (i : Int)) = false := by simp; omega
  obtain ⟨S, hS⟩ : ∃ S, S = a0 ++ a1 := ⟨_, rfl⟩
  have hsz : S.size = a0.size + a1.size := by rw [hS]; simp
  have hadd : ∀ wx, (Op.stringOp .add a0 a1).run Try.prog wx = .ok (.string S) wx := by
    intro wx
    rw [hS]
    exact run_string_add_sum wx _ _ (by omega)
  have hf : found S (a0.size + i) = found a1 i := by rw [hS]; exact found_shift a0 a1 i
  clear hS
  cases hk : found a1 i with
  | none =>
    have c1 := fun wx => zz_any a1 i hi (by omega) (i : Int) (-1) rfl (by rw [hk]; rfl) wx
    have c2 := fun wx => zz_any S (a0.size + i) (by omega) (by omega) ((a0.size : Int) + (i : Int)) (-1) (by omega) (by rw [hf, hk]; rfl) wx
    have C1 : Hid _ := c1
    have C2 : Hid _ := c2
    clear c1 c2 hf hk hsz
    go_enter Try.func5, Try.ntmps5
    go_wp2_with (go_at_call 16; refine (bytes16 a0 a1 i h0 h1 _).mono ?_; rintro e w' ⟨rfl, rfl⟩)
    refine (C1.out _).mono ?_
    rintro e w' ⟨rfl, rfl⟩
    go_wp2_with fail
    refine (C2.out _).mono ?_
    rintro e w' ⟨rfl, rfl⟩
    clear C1 C2 hadd
    go_wp2_with fail
    go_ret
    exact ⟨rfl, Grown.refl _⟩
  | some k =>
    obtain ⟨m, hm1, hm2, hm3, -⟩ := found_at a1 i k hk
    have c1 := fun wx => zz_any a1 i hi (by omega) (i : Int) ((m : Int) + 1) rfl (by rw [hk, res_some]; omega) wx
    have c2 := fun wx => zz_any S (a0.size + i) (by omega) (by omega) ((a0.size : Int) + (i : Int)) ((m : Int) + 1 + (a0.size : Int)) (by omega) (by rw [hf, hk, res_some]; omega) wx
    have C1 : Hid _ := c1
    have C2 : Hid _ := c2
    clear c1 c2 hf hk hsz hm2
    have hne : ((m : Int) + 1 == -1) = false := by simp only [beq_eq_false_iff_ne, ne_eq]; omega
    go_enter Try.func5, Try.ntmps5
    go_wp2_with (go_at_call 16; refine (bytes16 a0 a1 i h0 h1 _).mono ?_; rintro e w' ⟨rfl, rfl⟩)
    refine (C1.out _).mono ?_
    rintro e w' ⟨rfl, rfl⟩
    go_wp2_with fail
    refine (C2.out _).mono ?_
    rintro e w' ⟨rfl, rfl⟩
    clear C1 C2 hadd
    go_wp2_with fail
    go_ret
    exact ⟨rfl, Grown.refl _⟩

set_option maxRecDepth 100000 in
set_option maxHeartbeats 1000000 in
theorem shift_walk (a0 : ByteArray) (a1 : ByteArray) (a2 : Int) (w0 : a0.size ≤ maxLen) (w1 : a1.size ≤ maxLen) (w2 : (Lit.int .i64 a2).wf = true) (w : World) :
    Calls Try.prog 5 #[.string a0, .string a1, .int .i64 a2] w fun e w' => e = .returned (.bool true) ∧ Grown w w' := by
  unfold maxLen at w0 w1
  by_cases h0 : a0.size ≤ 65536
  · by_cases h1 : a1.size ≤ 65536
    · have hd0 : decide (65536 < (a0.size : Int)) = false := by simp; omega
      have hd1 : decide (65536 < (a1.size : Int)) = false := by simp; omega
      by_cases hn : a2 < 0
      · have hd2 : decide (a2 < 0) = true := by simp; omega
        go_enter Try.func5, Try.ntmps5
        go_wp2
        go_ret
        exact ⟨rfl, Grown.refl _⟩
      · by_cases hg : (a1.size : Int) < a2
        · have hd2 : decide (a2 < 0) = false := by simp; omega
          have hd3 : decide ((a1.size : Int) < a2) = true := by simp; omega
          go_enter Try.func5, Try.ntmps5
          go_wp2
          go_ret
          exact ⟨rfl, Grown.refl _⟩
        · obtain ⟨i, rfl⟩ := Int.eq_ofNat_of_zero_le (by omega : 0 ≤ a2)
          exact shift_main a0 a1 i h0 h1 (by omega) w
    · go_enter Try.func5, Try.ntmps5
      go_wp2
      all_goals go_ret
      all_goals exact ⟨rfl, Grown.refl _⟩
  · go_enter Try.func5, Try.ntmps5
    go_wp2
    all_goals go_ret
    all_goals exact ⟨rfl, Grown.refl _⟩
end Go.Proofs.Qxb6001343a.Cb
