import Derived.Test.Qxb6601625aRows
import Derived.WalkKit
import Derived.ProofKit
import Derived.OpenShut
import Derived.ShutString
namespace Go.Proofs.Qxb6601625a.Shp
open Go.ChangeShapes Go.WideShapes Go.ChangeAt Go.RowKit
set_option linter.unusedVariables false
set_option linter.unusedSimpArgs false

/-- The byte of s at place i, as a number. -/
def bt (s : ByteArray) (i : Nat) : Int := if h : i < s.size then (s[i].toNat : Int) else 0
theorem bt_of (s : ByteArray) (i : Nat) (h : i < s.size) : bt s i = (s[i].toNat : Int) := dif_pos h
/-- A byte c against the layout's byte l. -/
def okB (c l : Int) : Bool := if l = 100 then decide (48 ≤ c ∧ c ≤ 57) else if l = 84 then decide (c = 84 ∨ c = 116) else decide (c = l)
def shp (t l : ByteArray) : Bool := decide (t.size = l.size) && (List.range l.size).all (fun i => okB (bt t i) (bt l i))

theorem shp_ne {t l : ByteArray} (h : t.size ≠ l.size) : shp t l = false := by simp [shp, h]
theorem shp_yes {t l : ByteArray} (h : t.size = l.size) (ha : ∀ j, j < l.size → okB (bt t j) (bt l j) = true) : shp t l = true := by
  simp [shp, h]; exact ha
theorem shp_no {t l : ByteArray} {k : Nat} (hk : k < l.size) (h : okB (bt t k) (bt l k) = false) : shp t l = false := by
  unfold shp
  rw [Bool.and_eq_false_iff]
  right
  rw [List.all_eq_false]
  exact ⟨k, by simpa using hk, by simp [h]⟩
theorem okB_no {c l : Int} (h : ¬ ((l = 100 ∧ 48 ≤ c ∧ c ≤ 57) ∨ (l ≠ 100 ∧ l = 84 ∧ (c = 84 ∨ c = 116)) ∨ (l ≠ 100 ∧ l ≠ 84 ∧ c = l))) : okB c l = false := by
  unfold okB
  split
  · simp; omega
  · split
    · simp; omega
    · simp; omega
theorem okB_yes {c l : Int} (h : (l = 100 ∧ 48 ≤ c ∧ c ≤ 57) ∨ (l ≠ 100 ∧ l = 84 ∧ (c = 84 ∨ c = 116)) ∨ (l ≠ 100 ∧ l ≠ 84 ∧ c = l)) : okB c l = true := by
  unfold okB
  split
  · simp; omega
  · split
    · simp; omega
    · simp; omega
theorem all_succ {p : Nat → Bool} {k : Nat} (h : ∀ j, j < k → p j = true) (hk : p k = true) : ∀ j, j < k + 1 → p j = true := by
  intro j hj
  by_cases e : j = k
  · rw [e]; exact hk
  · exact h j (by omega)
theorem ret_bool {a b : Bool} (h : a = b) : Ending.returned (.bool a) = .returned (.bool b) := by rw [h]

set_option maxHeartbeats 400000 in
theorem shaped_any (t l : ByteArray) (w : World) (ht : t.size ≤ maxLen) (hl : l.size ≤ maxLen) :
    Calls Try.prog 25 #[.string t, .string l] w fun e w' => e = .returned (.bool (shp t l)) ∧ w' = w := by
  unfold maxLen at ht hl
  by_cases hsz : t.size = l.size
  · have hb : ((t.size : Int) != (l.size : Int)) = false := by simp [hsz]
    have HZ : Hid (t.size = l.size) := hsz
    have hz1 : t.size ≤ l.size := by omega
    have hz2 : l.size ≤ t.size := by omega
    clear hsz
    go_enter Try.func25, Try.ntmps25
    go_wp2
    go_loop [14] (fun i => ∃ k : Nat, k ≤ l.size ∧ i = .int .i64 k ∧ Hid (∀ j, j < k → okB (bt t j) (bt l j) = true)) (fun i => l.size - (intOf i).toNat)
    case atStart => exact ⟨0, Nat.zero_le _, rfl, fun j hj => by omega⟩
    case round =>
      obtain ⟨k, hk, rfl, hall⟩ := hrel
      by_cases hlt : k < l.size
      · have hlt2 : k < t.size := by omega
        go_wp2
        all_goals first
          | (have hno : okB (bt t k) (bt l k) = false := by
               rw [bt_of t k hlt2, bt_of l k hlt]; apply okB_no
               simp only [beq_iff_eq, bne_iff_ne, beq_eq_false_iff_ne, bne_eq_false_iff_eq, ne_eq] at *; omega
             go_ret
             exact ⟨ret_bool (shp_no hlt hno).symm, rfl⟩)
          | (have hyes : okB (bt t k) (bt l k) = true := by
               rw [bt_of t k hlt2, bt_of l k hlt]; apply okB_yes
               simp only [beq_iff_eq, bne_iff_ne, beq_eq_false_iff_ne, bne_eq_false_iff_eq, ne_eq] at *; omega
             go_round
             case rel => exact ⟨k + 1, by omega, by go_num, all_succ hall.out hyes⟩
             case measure => simp [intOf]; omega)
      · go_wp2
        go_ret
        exact ⟨ret_bool (shp_yes HZ.out (fun j hj => hall.out j (by omega))).symm, rfl⟩
  · have hb : ((t.size : Int) != (l.size : Int)) = true := by simp; omega
    go_enter Try.func25, Try.ntmps25
    go_wp2
    go_ret
    exact ⟨ret_bool (shp_ne hsz).symm, rfl⟩

/-- 'ZZshaped' hands on to 'shaped'. -/
theorem zzshaped_any (t l : ByteArray) (w : World) (ht : t.size ≤ maxLen) (hl : l.size ≤ maxLen) :
    Calls Try.prog 17 #[.string t, .string l] w fun e w' => e = .returned (.bool (shp t l)) ∧ w' = w := by
  go_enter Try.func17, Try.ntmps17
  go_wp2_with (go_at_call 25; refine (shaped_any _ _ _ ht hl).mono ?_; rintro e w' ⟨rfl, rfl⟩)
  go_ret
  exact ⟨rfl, rfl⟩
end Go.Proofs.Qxb6601625a.Shp
