import Derived.Test.Qxb6001343aRows
import Derived.WalkKit
import Derived.ProofKit
import Derived.OpenShut
import Derived.ShutString
import Derived.Handy
import Derived.Test.Qxb6001343aPlain
namespace Go.Proofs.Qxb6001343a.Cb
open Go.ChangeShapes Go.WideShapes Go.ChangeAt Go.RowKit
set_option linter.unusedVariables false
set_option linter.unusedSimpArgs false

/-- The bytes of s from place i on. -/
def from_ (s : ByteArray) (i : Nat) : List UInt8 := s.data.toList.drop i
theorem from_lt (s : ByteArray) (i : Nat) (h : i < s.size) : from_ s i = s[i] :: from_ s (i + 1) := by
  unfold from_
  have h' : i < s.data.toList.length := by simpa using h
  rw [List.drop_eq_getElem_cons h']
  rfl
theorem from_ge (s : ByteArray) (i : Nat) (h : s.size ≤ i) : from_ s i = [] := by
  unfold from_
  apply List.drop_eq_nil_of_le
  simpa using h
theorem from_len (s : ByteArray) (i : Nat) : (from_ s i).length = s.size - i := by
  unfold from_
  rw [List.length_drop]
  rfl
theorem from_tail (s : ByteArray) (i : Nat) : (from_ s i).tail = from_ s (i + 1) := by
  unfold from_
  rw [List.tail_drop]
theorem from_drop (s : ByteArray) (i k : Nat) : (from_ s i).drop k = from_ s (i + k) := by
  unfold from_
  rw [List.drop_drop]
theorem hd_lt (s : ByteArray) (i : Nat) (h : i < s.size) (p : UInt8 → Bool) : hd (from_ s i) p = p s[i] := by rw [from_lt s i h]; rfl
theorem hd_ge (s : ByteArray) (i : Nat) (h : ¬ i < s.size) (p : UInt8 → Bool) : hd (from_ s i) p = false := by rw [from_ge s i (by omega)]; rfl

/-! closingQuote's round, way by way: q the quote, k the place -/
section quote
variable (s : ByteArray) (q : UInt8) (k : Nat)
theorem q_out (h : ¬ k < s.size) : res k (cq q (from_ s k)) = -1 := by rw [from_ge s k (by omega), cq_nil]; rfl
theorem q_esc (h : k < s.size) (h1 : ((q.toNat : Int) == 34) = true) (h2 : ((s[k].toNat : Int) == 92) = true) : res k (cq q (from_ s k)) = res (k + 2) (cq q (from_ s (k + 2))) := by
  rw [from_lt s k h, cq_esc q _ _ (by rw [Bool.and_eq_true]; exact ⟨h1, h2⟩), res_map, from_tail]
theorem no_esc (h : k < s.size) (hn : ((q.toNat : Int) == 34) = false ∨ ((s[k].toNat : Int) == 92) = false) : (is 34 q && is 92 s[k]) = false := by
  rw [Bool.and_eq_false_iff]; exact hn
theorem q_two (h : k < s.size) (h' : k + 1 < s.size) (hn : ((q.toNat : Int) == 34) = false ∨ ((s[k].toNat : Int) == 92) = false) (h1 : ((s[k].toNat : Int) == (q.toNat : Int)) = true) (h2 : ((q.toNat : Int) == 39) = true)
    (h3 : ((s[k + 1].toNat : Int) == 39) = true) : res k (cq q (from_ s k)) = res (k + 2) (cq q (from_ s (k + 2))) := by
  have h1' : s[k].toNat = q.toNat := by simp only [beq_iff_eq] at h1; omega
  rw [from_lt s k h, cq_two q _ _ (no_esc s q k h hn) h1' h2 (by rw [hd_lt s (k + 1) h']; exact h3), res_map, from_tail]
theorem q_end (h : k < s.size) (hn : ((q.toNat : Int) == 34) = false ∨ ((s[k].toNat : Int) == 92) = false) (h1 : ((s[k].toNat : Int) == (q.toNat : Int)) = true)
    (h2 : ((q.toNat : Int) == 39) = false ∨ (¬ k + 1 < s.size) ∨ ∃ h' : k + 1 < s.size, ((s[k + 1].toNat : Int) == 39) = false) : res k (cq q (from_ s k)) = (k : Int) + 1 := by
  have h1' : s[k].toNat = q.toNat := by simp only [beq_iff_eq] at h1; omega
  have h2' : (is 39 q && hd (from_ s (k + 1)) (is 39)) = false := by
    rw [Bool.and_eq_false_iff]
    rcases h2 with h2 | h2 | ⟨h', h2⟩
    · exact Or.inl h2
    · exact Or.inr (hd_ge s (k + 1) h2 _)
    · exact Or.inr (by rw [hd_lt s (k + 1) h']; exact h2)
  rw [from_lt s k h, cq_end q _ _ (no_esc s q k h hn) h1' h2', res_some]
  rfl
theorem q_on (h : k < s.size) (hn : ((q.toNat : Int) == 34) = false ∨ ((s[k].toNat : Int) == 92) = false) (h1 : ((s[k].toNat : Int) == (q.toNat : Int)) = false) : res k (cq q (from_ s k)) = res (k + 1) (cq q (from_ s (k + 1))) := by
  have h1' : ¬ s[k].toNat = q.toNat := by simp only [beq_eq_false_iff_ne, ne_eq] at h1; omega
  rw [from_lt s k h, cq_on q _ _ (no_esc s q k h hn) h1', res_map]
end quote

set_option maxRecDepth 100000 in
set_option maxHeartbeats 1000000 in
theorem quote_any (s : ByteArray) (v : Int) (i : Nat) (hv : v = (i : Int)) (hi : i < s.size) (w : World) (hs : s.size ≤ 1048576) :
    Calls Try.prog 32 #[.string s, .int .i64 v] w fun e w' => e = .returned (.int .i64 (res (i + 1) (cq s[i] (from_ s (i + 1))))) ∧ w' = w := by
  subst hv
  go_enter Try.func32, Try.ntmps32
  go_wp2_with fail
  go_loop [6] (fun v => ∃ k : Nat, i + 1 ≤ k ∧ k ≤ s.size + 1 ∧ v = .int .i64 (k : Int) ∧ Hid (res (i + 1) (cq s[i] (from_ s (i + 1))) = res k (cq s[i] (from_ s k)))) (fun v => s.size + 1 - (intOf v).toNat)
  case atStart => exact ⟨i + 1, Nat.le_refl _, by omega, by go_num, rfl⟩
  case round =>
    obtain ⟨k, hik, hk, rfl, H⟩ := hrel
    by_cases hlt : k < s.size
    · cases q34 : ((s[i].toNat : Int) == 34)
      · cases cQ : ((s[k].toNat : Int) == (s[i].toNat : Int))
        · have h1 := H.out.trans (q_on s s[i] k hlt (Or.inl q34) cQ)
          have H1 : Hid _ := h1
          clear h1 H
          go_wp2_with fail
          go_round
          case rel => exact ⟨k + 1, by omega, by omega, by go_num, H1⟩
          case measure => simp [intOf]; omega
        · cases q39 : ((s[i].toNat : Int) == 39)
          · have h1 := H.out.trans (q_end s s[i] k hlt (Or.inl q34) cQ (Or.inl q39))
            have H1 : Hid _ := h1
            clear h1 H
            go_wp2_with fail
            go_ret
            exact ⟨by rw [H1.out]; rfl, rfl⟩
          · by_cases hlt1 : k + 1 < s.size
            · cases d39 : ((s[k + 1].toNat : Int) == 39)
              · have h1 := H.out.trans (q_end s s[i] k hlt (Or.inl q34) cQ (Or.inr (Or.inr ⟨hlt1, d39⟩)))
                have H1 : Hid _ := h1
                clear h1 H
                go_wp2_with fail
                go_ret
                exact ⟨by rw [H1.out]; rfl, rfl⟩
              · have h1 := H.out.trans (q_two s s[i] k hlt hlt1 (Or.inl q34) cQ q39 d39)
                have H1 : Hid _ := h1
                clear h1 H
                go_wp2_with fail
                go_round
                case rel => exact ⟨k + 2, by omega, by omega, by go_num, H1⟩
                case measure => simp [intOf]; omega
            · have h1 := H.out.trans (q_end s s[i] k hlt (Or.inl q34) cQ (Or.inr (Or.inl hlt1)))
              have H1 : Hid _ := h1
              clear h1 H
              go_wp2_with fail
              go_ret
              exact ⟨by rw [H1.out]; rfl, rfl⟩
      · cases c92 : ((s[k].toNat : Int) == 92)
        · have q39 : ((s[i].toNat : Int) == 39) = false := by simp only [beq_iff_eq, beq_eq_false_iff_ne, ne_eq] at *; omega
          cases cQ : ((s[k].toNat : Int) == (s[i].toNat : Int))
          · have h1 := H.out.trans (q_on s s[i] k hlt (Or.inr c92) cQ)
            have H1 : Hid _ := h1
            clear h1 H
            go_wp2_with fail
            go_round
            case rel => exact ⟨k + 1, by omega, by omega, by go_num, H1⟩
            case measure => simp [intOf]; omega
          · have h1 := H.out.trans (q_end s s[i] k hlt (Or.inr c92) cQ (Or.inl q39))
            have H1 : Hid _ := h1
            clear h1 H
            go_wp2_with fail
            go_ret
            exact ⟨by rw [H1.out]; rfl, rfl⟩
        · have h1 := H.out.trans (q_esc s s[i] k hlt q34 c92)
          have H1 : Hid _ := h1
          clear h1 H
          go_wp2_with fail
          go_round
          case rel => exact ⟨k + 2, by omega, by omega, by go_num, H1⟩
          case measure => simp [intOf]; omega
    · have h1 := H.out.trans (q_out s s[i] k hlt)
      have H1 : Hid _ := h1
      clear h1
      go_wp2_with fail
      go_ret
      exact ⟨by rw [H1.out]; rfl, rfl⟩
end Go.Proofs.Qxb6001343a.Cb
