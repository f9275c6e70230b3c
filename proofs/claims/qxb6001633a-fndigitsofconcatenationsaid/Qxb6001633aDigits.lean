import Derived.Test.Qxb6001633aRows
import Derived.WalkKit
import Derived.ProofKit
import Derived.OpenShut
import Derived.ShutString
import Derived.Handy
namespace Go.Proofs.Qxb6001633a.Dg
open Go.ChangeShapes Go.WideShapes Go.ChangeAt Go.RowKit
set_option linter.unusedVariables false
set_option linter.unusedSimpArgs false

def dig (c : UInt8) : Bool := decide (48 ≤ c.toNat ∧ c.toNat ≤ 57)
/-- Are all bytes of s digits? -/
def digs (s : ByteArray) : Bool := s.data.toList.all dig
theorem digs_append (a b : ByteArray) : digs (a ++ b) = (digs a && digs b) := by
  unfold digs
  have : (a ++ b).data.toList = a.data.toList ++ b.data.toList := by simp [ByteArray.data_append]
  rw [this, List.all_append]
theorem digs_no (s : ByteArray) (k : Nat) (h : k < s.size) (hc : (s[k].toNat : Int) < 48 ∨ 57 < (s[k].toNat : Int)) : digs s = false := by
  unfold digs
  rw [List.all_eq_false]
  refine ⟨s[k], ?_, ?_⟩
  · have h' : k < s.data.toList.length := by simpa using h
    exact List.getElem_mem h'
  · simp [dig]; omega
theorem digs_yes (s : ByteArray) (h : ∀ j (hj : j < s.size), (48 : Int) ≤ (s[j].toNat : Int) ∧ (s[j].toNat : Int) ≤ 57) : digs s = true := by
  unfold digs
  rw [List.all_eq_true]
  intro x hx
  obtain ⟨j, hj, rfl⟩ := List.getElem_of_mem hx
  have hj' : j < s.size := by simpa using hj
  have := h j hj'
  have e : s.data.toList[j] = s[j] := rfl
  rw [e]
  simp [dig]; omega
theorem digs_step (s : ByteArray) (k : Nat) (h : k < s.size) (hlo : ¬ (s[k].toNat : Int) < 48) (hhi : ¬ 57 < (s[k].toNat : Int))
    (H : ∀ j (hj : j < s.size), j < k → (48 : Int) ≤ (s[j].toNat : Int) ∧ (s[j].toNat : Int) ≤ 57) : ∀ j (hj : j < s.size), j < k + 1 → (48 : Int) ≤ (s[j].toNat : Int) ∧ (s[j].toNat : Int) ≤ 57 := by
  intro j hj hjk
  by_cases e : j = k
  · subst e; omega
  · exact H j hj (by omega)
theorem ret_b {a b : Bool} (h : a = b) : Ending.returned (.bool a) = .returned (.bool b) := by rw [h]

set_option maxHeartbeats 400000 in
theorem digits_any (s : ByteArray) (w : World) (hs : s.size ≤ maxLen) :
    Calls Try.prog 6 #[.string s] w fun e w' => e = .returned (.bool (digs s)) ∧ w' = w := by
  unfold maxLen at hs
  go_enter Try.func6, Try.ntmps6
  go_wp2
  go_loop [6] (fun v => ∃ k : Nat, k ≤ s.size ∧ v = .int .i64 (k : Int) ∧ Hid (∀ j (hj : j < s.size), j < k → (48 : Int) ≤ (s[j].toNat : Int) ∧ (s[j].toNat : Int) ≤ 57)) (fun v => s.size - (intOf v).toNat)
  case atStart => exact ⟨0, Nat.zero_le _, rfl, fun j hj h => by omega⟩
  case round =>
    obtain ⟨k, hk, rfl, H⟩ := hrel
    by_cases hlt : k < s.size
    · by_cases hlo : (s[k].toNat : Int) < 48
      · have h1 := digs_no s k hlt (Or.inl hlo)
        have H1 : Hid _ := h1
        clear h1 H
        go_wp2
        go_ret
        exact ⟨ret_b H1.out.symm, rfl⟩
      · by_cases hhi : 57 < (s[k].toNat : Int)
        · have h1 := digs_no s k hlt (Or.inr hhi)
          have H1 : Hid _ := h1
          clear h1 H
          go_wp2
          go_ret
          exact ⟨ret_b H1.out.symm, rfl⟩
        · have h1 := digs_step s k hlt hlo hhi H.out
          have H1 : Hid _ := h1
          clear h1 H
          go_wp2
          go_round
          case rel => exact ⟨k + 1, by omega, by go_num, H1⟩
          case measure => simp [intOf]; omega
    · have h1 := digs_yes s (fun j hj => H.out j hj (by omega))
      have H1 : Hid _ := h1
      clear h1 H
      go_wp2
      go_ret
      exact ⟨ret_b H1.out.symm, rfl⟩

theorem zzdigits_any (s : ByteArray) (b : Bool) (hb : digs s = b) (hs : s.size ≤ maxLen) (w : World) :
    Calls Try.prog 5 #[.string s] w fun e w' => e = .returned (.bool b) ∧ w' = w := by
  subst hb
  go_enter Try.func5, Try.ntmps5
  go_wp2_with (go_at_call 6; refine (digits_any _ _ hs).mono ?_; rintro e w' ⟨rfl, rfl⟩)
  go_ret
  exact ⟨rfl, rfl⟩

theorem bytes4 (a b : ByteArray) (h : a.size + b.size ≤ 1048576) (w : World) :
    Calls Try.prog 4 #[.string a, .string b] w fun e w' => e = .returned (.bool true) ∧ w' = w := by
  go_enter Try.func4, Try.ntmps4
  go_wp2
  go_ret
  exact ⟨rfl, rfl⟩

set_option maxHeartbeats 1000000 in
theorem main (a b : ByteArray) (h : a.size + b.size ≤ 1048576) (x y : Bool) (hx : digs a = x) (hy : digs b = y) (w : World) :
    Calls Try.prog 3 #[.string a, .string b] w fun e w' => e = .returned (.bool true) ∧ Grown w w' := by
  have hd0 : decide (1048576 < (a.size : Int)) = false := by simp; omega
  have hd1 : decide (1048576 < (b.size : Int)) = false := by simp; omega
  have hd2 : decide (1048576 < (a.size : Int) + (b.size : Int)) = false := by simp; omega
  obtain ⟨S, hS⟩ : ∃ S, S = a ++ b := ⟨_, rfl⟩
  have hsz : S.size = a.size + b.size := by rw [hS]; simp
  have hadd : ∀ wx, (Op.stringOp .add a b).run Try.prog wx = .ok (.string S) wx := by
    intro wx
    rw [hS]
    exact run_string_add_sum wx _ _ (by omega)
  have hf : digs S = (x && y) := by rw [hS, digs_append, hx, hy]
  clear hS
  have c0 := fun wx => zzdigits_any ⟨#[]⟩ true rfl (by unfold maxLen; show 0 ≤ _; omega) wx
  have c1 := fun wx => zzdigits_any S (x && y) hf (by unfold maxLen; omega) wx
  have c2 := fun wx => zzdigits_any a x hx (by unfold maxLen; omega) wx
  have c3 := fun wx => zzdigits_any b y hy (by unfold maxLen; omega) wx
  have C0 : Hid _ := c0
  have C1 : Hid _ := c1
  have C2 : Hid _ := c2
  have C3 : Hid _ := c3
  clear c0 c1 c2 c3 hf hsz hx hy
  cases x
  · go_enter Try.func3, Try.ntmps3
    go_wp2_with (go_at_call 4; refine (bytes4 a b h _).mono ?_; rintro e w' ⟨rfl, rfl⟩)
    refine (C0.out _).mono ?_
    rintro e w' ⟨rfl, rfl⟩
    go_wp2_with fail
    refine (C1.out _).mono ?_
    rintro e w' ⟨rfl, rfl⟩
    go_wp2_with fail
    refine (C2.out _).mono ?_
    rintro e w' ⟨rfl, rfl⟩
    clear C0 C1 C2 C3 hadd
    go_wp2_with fail
    go_ret
    exact ⟨rfl, Grown.refl _⟩
  · go_enter Try.func3, Try.ntmps3
    go_wp2_with (go_at_call 4; refine (bytes4 a b h _).mono ?_; rintro e w' ⟨rfl, rfl⟩)
    refine (C0.out _).mono ?_
    rintro e w' ⟨rfl, rfl⟩
    go_wp2_with fail
    refine (C1.out _).mono ?_
    rintro e w' ⟨rfl, rfl⟩
    go_wp2_with fail
    refine (C2.out _).mono ?_
    rintro e w' ⟨rfl, rfl⟩
    go_wp2_with fail
    refine (C3.out _).mono ?_
    rintro e w' ⟨rfl, rfl⟩
    clear C0 C1 C2 C3 hadd
    go_wp2_with fail
    go_ret
    exact ⟨by cases y <;> rfl, Grown.refl _⟩

set_option maxHeartbeats 1000000 in
theorem walk (a0 : ByteArray) (a1 : ByteArray) (w0 : a0.size ≤ maxLen) (w1 : a1.size ≤ maxLen) (w : World) :
    Calls Try.prog 3 #[.string a0, .string a1] w fun e w' => e = .returned (.bool true) ∧ Grown w w' := by
  by_cases h : a0.size + a1.size ≤ 1048576
  · exact main a0 a1 h _ _ rfl rfl w
  · unfold maxLen at w0 w1
    go_enter Try.func3, Try.ntmps3
    go_wp2
    all_goals go_ret
    all_goals exact ⟨rfl, Grown.refl _⟩
end Go.Proofs.Qxb6001633a.Dg
