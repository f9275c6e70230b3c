import Derived.Test.Qxb6001343aQuote
namespace Go.Proofs.Qxb6001343a.Cb
open Go.ChangeShapes Go.WideShapes Go.ChangeAt Go.RowKit
set_option linter.unusedVariables false
set_option linter.unusedSimpArgs false

theorem cq_le (q : UInt8) : ∀ (l : List UInt8) (j : Nat), cq q l = some j → 1 ≤ j ∧ j ≤ l.length
  | [], j, h => by simp [cq] at h
  | [c], j, h => by
    simp only [cq] at h
    split at h
    · cases h
    · split at h
      · cases h; simp
      · cases h
  | c :: d :: r, j, h => by
    simp only [cq] at h
    split at h
    · obtain ⟨i, hi, rfl⟩ := Option.map_eq_some_iff.1 h
      have := cq_le q r i hi
      simp; omega
    · split at h
      · obtain ⟨i, hi, rfl⟩ := Option.map_eq_some_iff.1 h
        have := cq_le q r i hi
        simp; omega
      · split at h
        · cases h; simp
        · obtain ⟨i, hi, rfl⟩ := Option.map_eq_some_iff.1 h
          have := cq_le q (d :: r) i hi
          simp at this ⊢; omega

section bracket
variable (s : ByteArray) (k f : Nat) (d : Int) (ns : Bool)
theorem b_out (h : ¬ k < s.size) : res k (cb f (from_ s k) d ns) = -1 := by rw [from_ge s k (by omega), cb_nil]; rfl
theorem b_sp_no (h : k < s.size) (h1 : sp s[k] = true) (h2 : hd (from_ s (k + 1)) (is 35) = true) : res k (cb (f + 1) (from_ s k) d ns) = -1 := by
  rw [from_lt s k h, cb_cons, if_pos h1, if_pos h2]; rfl
theorem b_sp (h : k < s.size) (h1 : sp s[k] = true) (h2 : hd (from_ s (k + 1)) (is 35) = false) : res k (cb (f + 1) (from_ s k) d ns) = res (k + 1) (cb f (from_ s (k + 1)) d ns) := by
  rw [from_lt s k h, cb_cons, if_pos h1, if_neg (by rw [h2]; simp), res_map]
theorem b_open (h : k < s.size) (h1 : sp s[k] = false) (h2 : opens s[k] = true) : res k (cb (f + 1) (from_ s k) d ns) = res (k + 1) (cb f (from_ s (k + 1)) (d + 1) true) := by
  rw [from_lt s k h, cb_cons, if_neg (by rw [h1]; simp), if_pos h2, res_map]
theorem b_close0 (h : k < s.size) (h1 : sp s[k] = false) (h2 : opens s[k] = false) (h3 : closes s[k] = true) (h4 : d - 1 = 0) : res k (cb (f + 1) (from_ s k) d ns) = (k : Int) + 1 := by
  rw [from_lt s k h, cb_cons, if_neg (by rw [h1]; simp), if_neg (by rw [h2]; simp), if_pos h3, if_pos h4]; rfl
theorem b_close (h : k < s.size) (h1 : sp s[k] = false) (h2 : opens s[k] = false) (h3 : closes s[k] = true) (h4 : ¬ d - 1 = 0) : res k (cb (f + 1) (from_ s k) d ns) = res (k + 1) (cb f (from_ s (k + 1)) (d - 1) false) := by
  rw [from_lt s k h, cb_cons, if_neg (by rw [h1]; simp), if_neg (by rw [h2]; simp), if_pos h3, if_neg h4, res_map]
theorem b_q_none (h : k < s.size) (h1 : sp s[k] = false) (h2 : opens s[k] = false) (h3 : closes s[k] = false) (h4 : quote s[k] = true) (hq : cq s[k] (from_ s (k + 1)) = none) : res k (cb (f + 1) (from_ s k) d true) = -1 := by
  rw [from_lt s k h, cb_cons, if_neg (by rw [h1]; simp), if_neg (by rw [h2]; simp), if_neg (by rw [h3]; simp), if_pos (by rw [h4]; rfl), hq]; rfl
theorem b_q_some (h : k < s.size) (h1 : sp s[k] = false) (h2 : opens s[k] = false) (h3 : closes s[k] = false) (h4 : quote s[k] = true) (j : Nat) (hq : cq s[k] (from_ s (k + 1)) = some j) :
    res k (cb (f + 1) (from_ s k) d true) = res (k + 1 + j) (cb f (from_ s (k + 1 + j)) d false) := by
  rw [from_lt s k h, cb_cons, if_neg (by rw [h1]; simp), if_neg (by rw [h2]; simp), if_neg (by rw [h3]; simp), if_pos (by rw [h4]; rfl), hq]
  show res k ((cb f ((from_ s (k + 1)).drop j) d false).map (· + (j + 1))) = _
  rw [res_map, from_drop, show k + (j + 1) = k + 1 + j from by omega]
theorem b_on (h : k < s.size) (h1 : sp s[k] = false) (h2 : opens s[k] = false) (h3 : closes s[k] = false) (h4 : (quote s[k] && ns) = false) {b : Bool} (hb : nsN s[k] ns (from_ s (k + 1)) = b) :
    res k (cb (f + 1) (from_ s k) d ns) = res (k + 1) (cb f (from_ s (k + 1)) d b) := by
  rw [from_lt s k h, cb_cons, if_neg (by rw [h1]; simp), if_neg (by rw [h2]; simp), if_neg (by rw [h3]; simp), if_neg (by rw [h4]; simp), hb, res_map]
end bracket

theorem byte_eq {c : UInt8} {n : Nat} (h : c.toNat = n) (hn : n < 256) : c = UInt8.ofNat n := by
  apply UInt8.toNat_inj.1
  rw [h]; simp; omega

theorem sp_any (c : UInt8) {b : Bool} (hb : sp c = b) (w : World) : Calls Try.prog 31 #[.int .u8 (c.toNat : Int)] w fun e w' => e = .returned (.bool b) ∧ w' = w := by
  subst hb
  cases h1 : ((c.toNat : Int) == 32)
  · have e : sp c = ((c.toNat : Int) == 9) := by show (((c.toNat : Int) == 32) || ((c.toNat : Int) == 9)) = _; rw [h1]; rfl
    have E : Hid _ := e
    clear e
    go_enter Try.func31, Try.ntmps31
    go_wp2
    go_ret
    exact ⟨by rw [E.out]; rfl, rfl⟩
  · have e : sp c = true := by show (((c.toNat : Int) == 32) || ((c.toNat : Int) == 9)) = _; rw [h1]; rfl
    have E : Hid _ := e
    clear e
    go_enter Try.func31, Try.ntmps31
    go_wp2
    go_ret
    exact ⟨by rw [E.out]; rfl, rfl⟩

theorem fl_any (c : UInt8) {b : Bool} (hb : fl c = b) (w : World) : Calls Try.prog 33 #[.int .u8 (c.toNat : Int)] w fun e w' => e = .returned (.bool b) ∧ w' = w := by
  subst hb
  have e : fl c = (((c.toNat : Int) == 44) || ((c.toNat : Int) == 91) || ((c.toNat : Int) == 93) || ((c.toNat : Int) == 123) || ((c.toNat : Int) == 125)) := rfl
  have E : Hid _ := e
  clear e
  cases h1 : ((c.toNat : Int) == 44) <;> cases h2 : ((c.toNat : Int) == 91) <;> cases h3 : ((c.toNat : Int) == 93) <;> cases h4 : ((c.toNat : Int) == 123)
  all_goals
    rw [h1, h2, h3, h4] at E
    go_enter Try.func33, Try.ntmps33
    go_wp2
    go_ret
    exact ⟨by rw [E.out]; rfl, rfl⟩
end Go.Proofs.Qxb6001343a.Cb
