import Derived.Test.Qxb6601625aRows
import Derived.WalkKit
import Derived.ProofKit
import Derived.OpenShut
import Derived.ShutString
import Derived.Handy
import Derived.Deep.DeepCutAuto
import Derived.Deep.CutBlock
import Derived.Test.Qxb6601625aJsonPlain
namespace Go.Proofs.Qxb6601625a.Jsn
open Go.ChangeShapes Go.WideShapes Go.ChangeAt Go.RowKit
set_option linter.unusedVariables false
set_option linter.unusedSimpArgs false

/-- The bytes of s from place i on. -/
def from_ (s : ByteArray) (i : Nat) : List UInt8 := s.data.toList.drop i
theorem from_lt (s : ByteArray) (i : Nat) (h : i < s.size) : from_ s i = s[i] :: from_ s (i + 1) := by
  unfold from_
  have h' : i < s.data.toList.length := by simpa using h
  rw [List.drop_eq_getElem_cons h']
  rfl
theorem from_ge (s : ByteArray) (i : Nat) (h : s.size ≤ i) : from_ s i = [] := by
  unfold from_
  apply List.drop_eq_nil_of_le
  simpa using h
theorem from_len (s : ByteArray) (i : Nat) : (from_ s i).length = s.size - i := by
  unfold from_
  rw [List.length_drop]
  rfl

theorem skl_in (s : ByteArray) (k : Nat) (h : k < s.size) (h0 : (48 : Int) ≤ (s[k].toNat : Int)) (h1 : (s[k].toNat : Int) ≤ 57) : skl (from_ s k) = skl (from_ s (k + 1)) := by
  rw [from_lt s k h]
  show (if dig s[k] = true then skl (from_ s (k + 1)) else s[k] :: from_ s (k + 1)) = _
  rw [if_pos (by simp [dig]; omega)]
theorem skl_out (s : ByteArray) (k : Nat) (h : k < s.size) (h0 : (s[k].toNat : Int) < 48 ∨ 57 < (s[k].toNat : Int)) : skl (from_ s k) = from_ s k := by
  rw [from_lt s k h]
  show (if dig s[k] = true then skl (from_ s (k + 1)) else s[k] :: from_ s (k + 1)) = _
  rw [if_neg (by simp [dig]; omega)]
theorem skl_end (s : ByteArray) (k : Nat) (h : s.size ≤ k) : skl (from_ s k) = from_ s k := by
  rw [from_ge s k h]; rfl

set_option maxHeartbeats 400000 in
theorem skip_any (s : ByteArray) (i : Nat) (hi : i ≤ s.size) (w : World) (hs : s.size ≤ 1048576) :
    Calls Try.prog 27 #[.string s, .int .i64 (i : Int)] w fun e w' => (∃ k : Nat, e = .returned (.int .i64 (k : Int)) ∧ i ≤ k ∧ k ≤ s.size ∧ from_ s k = skl (from_ s i)) ∧ w' = w := by
  go_enter Try.func27, Try.ntmps27
  go_wp2
  go_loop [1] (fun v => ∃ k : Nat, i ≤ k ∧ k ≤ s.size ∧ v = .int .i64 k ∧ Hid (skl (from_ s i) = skl (from_ s k))) (fun v => s.size - (intOf v).toNat)
  case atStart => exact ⟨i, Nat.le_refl _, hi, rfl, rfl⟩
  case round =>
    obtain ⟨k, hik, hk, rfl, hsk⟩ := hrel
    by_cases hlt : k < s.size
    · go_wp2
      · go_round
        case rel => exact ⟨k + 1, by omega, by omega, by go_num, hsk.out.trans (skl_in s k hlt (by omega) (by omega))⟩
        case measure => simp [intOf]; omega
      · go_ret
        exact ⟨⟨k, rfl, hik, hk, (hsk.out.trans (skl_out s k hlt (by omega))).symm⟩, rfl⟩
      · go_ret
        exact ⟨⟨k, rfl, hik, hk, (hsk.out.trans (skl_out s k hlt (by omega))).symm⟩, rfl⟩
    · go_wp2
      go_ret
      exact ⟨⟨k, rfl, hik, hk, (hsk.out.trans (skl_end s k (by omega))).symm⟩, rfl⟩

theorem skip_at (s : ByteArray) (v : Int) (i : Nat) (hv : v = (i : Int)) (hi : i ≤ s.size) (w : World) (hs : s.size ≤ 1048576) :
    Calls Try.prog 27 #[.string s, .int .i64 v] w fun e w' => (∃ k : Nat, e = .returned (.int .i64 (k : Int)) ∧ i ≤ k ∧ k ≤ s.size ∧ from_ s k = skl (from_ s i)) ∧ w' = w := by
  subst hv
  exact skip_any s i hi w hs

/-- Does the list begin with a byte of whom p says yes? -/
def hb (l : List UInt8) (p : UInt8 → Bool) : Bool := match l with | [] => false | c :: _ => p c
theorem hb_lt (s : ByteArray) (i : Nat) (h : i < s.size) (p : UInt8 → Bool) : hb (from_ s i) p = p s[i] := by rw [from_lt s i h]; rfl
theorem hb_ge (s : ByteArray) (i : Nat) (h : ¬ i < s.size) (p : UInt8 → Bool) : hb (from_ s i) p = false := by rw [from_ge s i (by omega)]; rfl
theorem hb_some (s : ByteArray) (i : Nat) (p : UInt8 → Bool) (h : hb (from_ s i) p = true) : ∃ hi : i < s.size, p s[i] = true := by
  by_cases hi : i < s.size
  · exact ⟨hi, by rw [← hb_lt s i hi p]; exact h⟩
  · rw [hb_ge s i hi p] at h; cases h

def is (n : Int) (c : UInt8) : Bool := (c.toNat : Int) == n

theorem st1_yes (s : ByteArray) (h : hb (from_ s 0) (is 45) = true) : 1 ≤ s.size ∧ jsn (from_ s 0) = jint (from_ s 1) := by
  obtain ⟨hi, hp⟩ := hb_some s 0 _ h
  refine ⟨hi, ?_⟩
  unfold jsn
  rw [from_lt s 0 hi, jmin_cons, if_pos (by simp [is] at hp; omega)]
theorem st1_no (s : ByteArray) (h : hb (from_ s 0) (is 45) = false) : jsn (from_ s 0) = jint (from_ s 0) := by
  unfold jsn
  by_cases hi : 0 < s.size
  · rw [hb_lt s 0 hi] at h
    rw [from_lt s 0 hi, jmin_cons, if_neg (by simp [is] at h; omega)]
  · rw [from_ge s 0 (by omega)]; rfl

/-! the whole part -/
theorem st2_end (s : ByteArray) (i : Nat) (h : ¬ i < s.size) : jint (from_ s i) = false := by rw [from_ge s i (by omega)]; rfl
theorem st2_zero (s : ByteArray) (i : Nat) (h : i < s.size) (hc : ((s[i].toNat : Int) == 48) = true) : jint (from_ s i) = jfr (from_ s (i + 1)) := by
  simp only [beq_iff_eq] at hc
  rw [from_lt s i h, jint_cons, if_pos (by omega)]
theorem st2_digit (s : ByteArray) (i : Nat) (h : i < s.size) (h0 : (49 : Int) ≤ (s[i].toNat : Int)) (h1 : (s[i].toNat : Int) ≤ 57) : jint (from_ s i) = jfr (skl (from_ s i)) := by
  rw [from_lt s i h, jint_cons, if_neg (by omega), if_pos (by omega)]
theorem st2_other (s : ByteArray) (i : Nat) (h : i < s.size) (hc : ((s[i].toNat : Int) == 48) = false) (h0 : (s[i].toNat : Int) < 49 ∨ 57 < (s[i].toNat : Int)) : jint (from_ s i) = false := by
  simp only [beq_eq_false_iff_ne, ne_eq] at hc
  rw [from_lt s i h, jint_cons, if_neg (by omega), if_neg (by omega)]
/-! the fraction -/
theorem st3_no (s : ByteArray) (i : Nat) (h : hb (from_ s i) (is 46) = false) : jfr (from_ s i) = jex (from_ s i) := by
  by_cases hi : i < s.size
  · rw [hb_lt s i hi] at h
    rw [from_lt s i hi, jfr_cons, if_neg (by simp [is] at h; omega)]
  · rw [from_ge s i (by omega)]; rfl
theorem st3_yes (s : ByteArray) (i : Nat) (hi : i < s.size) (h : is 46 s[i] = true) {k : Nat} (h1 : i + 1 ≤ k) (hk : k ≤ s.size) (hs : from_ s k = skl (from_ s (i + 1))) :
    jfr (from_ s i) = if k = i + 1 then false else jex (from_ s k) := by
  have hl : (skl (from_ s (i + 1))).length = s.size - k := by rw [← hs, from_len]
  rw [from_lt s i hi, jfr_cons, if_pos (by simp [is] at h; omega), hl, from_len, ← hs]
  by_cases e : k = i + 1
  · rw [if_pos e, if_pos (by omega)]
  · rw [if_neg e, if_neg (by omega)]
/-! the exponent -/
def isE (c : UInt8) : Bool := is 101 c || is 69 c
theorem st4_no (s : ByteArray) (i : Nat) (hi : i ≤ s.size) (h : hb (from_ s i) isE = false) : jex (from_ s i) = decide (i = s.size) := by
  by_cases hlt : i < s.size
  · rw [hb_lt s i hlt] at h
    rw [from_lt s i hlt, jex_cons, if_neg (by simp [isE, is] at h; omega)]
    simp; omega
  · rw [from_ge s i (by omega)]
    have : i = s.size := by omega
    simp [jex, this]
theorem st4_yes (s : ByteArray) (i : Nat) (hi : i < s.size) (h : isE s[i] = true) : jex (from_ s i) = num (sgn (from_ s (i + 1))) := by
  rw [from_lt s i hi, jex_cons, if_pos (by simp [isE, is] at h; omega)]
theorem num_at (s : ByteArray) (t k : Nat) (h1 : t ≤ k) (hk : k ≤ s.size) (hs : from_ s k = skl (from_ s t)) : num (from_ s t) = if k = t then false else decide (k = s.size) := by
  have hl : (skl (from_ s t)).length = s.size - k := by rw [← hs, from_len]
  unfold num
  rw [hl, from_len]
  by_cases e : k = t
  · rw [if_pos e, if_pos (by omega)]
  · rw [if_neg e, if_neg (by omega)]
    have : (s.size - k = 0) ↔ (k = s.size) := by omega
    simp [this]
theorem sgn_end (s : ByteArray) (i : Nat) (h : ¬ i < s.size) : sgn (from_ s i) = from_ s i := by rw [from_ge s i (by omega)]; rfl
theorem sgn_yes (s : ByteArray) (i : Nat) (h : i < s.size) (hc : s[i].toNat = 43 ∨ s[i].toNat = 45) : sgn (from_ s i) = from_ s (i + 1) := by
  rw [from_lt s i h, sgn_cons, if_pos hc]
theorem sgn_no (s : ByteArray) (i : Nat) (h : i < s.size) (hc : ¬ (s[i].toNat = 43 ∨ s[i].toNat = 45)) : sgn (from_ s i) = from_ s i := by
  rw [from_lt s i h, sgn_cons, if_neg hc]
theorem ret_b {a b : Bool} (h : a = b) : Ending.returned (.bool a) = .returned (.bool b) := by rw [h]
theorem beq_dec (i n : Nat) : (((i : Int) == (n : Int)) : Bool) = decide (i = n) := by
  rw [Bool.eq_iff_iff]; simp only [beq_iff_eq, decide_eq_true_eq]; omega

set_option maxRecDepth 100000 in
set_option maxHeartbeats 1000000 in
theorem json_any (s : ByteArray) (w : World) (hs : s.size ≤ 1048576) :
    Calls Try.prog 24 #[.string s] w fun e w' => e = .returned (.bool (jsn (from_ s 0))) ∧ w' = w := by
  go_enter Try.func24, Try.ntmps24
  go_upto_region 2 with fail
  go_cut [15] (fun v wx => v = .bool (hb (from_ s 0) (is 45)) ∧ wx = w)
  case first =>
    by_cases h0 : 0 < s.size
    · have hb := hb_lt s 0 h0 (is 45)
      have HB : Hid _ := hb
      clear hb
      go_wp2_with fail
      go_meet
      case rel => exact ⟨by rw [HB.out]; rfl, rfl⟩
    · have hb := hb_ge s 0 h0 (is 45)
      have HB : Hid _ := hb
      clear hb
      go_wp2_with fail
      go_meet
      case rel => exact ⟨by rw [HB.out], rfl⟩
  case rest =>
  obtain ⟨rfl, rfl⟩ := hcut
  go_upto_if 15 with fail
  go_cut [3] (fun v wx => ∃ i : Nat, i ≤ s.size ∧ v = .int .i64 (i : Int) ∧ wx = wc ∧ Hid (jsn (from_ s 0) = jint (from_ s i)))
  case first =>
    cases h : hb (from_ s 0) (is 45)
    · have h1 := st1_no s h
      have H1 : Hid _ := h1
      clear h1
      go_wp2_with fail
      go_meet
      case rel => exact ⟨0, by omega, rfl, rfl, H1⟩
    · obtain ⟨h1, h2⟩ := st1_yes s h
      have H2 : Hid _ := h2
      clear h2
      go_wp2_with fail
      go_meet
      case rel => exact ⟨1, by omega, rfl, rfl, H2⟩
  case rest =>
  obtain ⟨i, hi, rfl, rfl, H1⟩ := hcut
  go_upto_block 0 with fail
  go_cut [3] (fun v wx => ∃ i : Nat, i ≤ s.size ∧ v = .int .i64 (i : Int) ∧ wx = wc ∧ Hid (jsn (from_ s 0) = jfr (from_ s i)))
  case first =>
    by_cases hlt : i < s.size
    · go_wp2_with fail
      · have h1 := H1.out.trans (st2_zero s i hlt ‹_›)
        go_meet
        case rel => exact ⟨i + 1, by omega, by go_num, rfl, h1⟩
      · have h1 := H1.out.trans (st2_digit s i hlt ‹_› ‹_›)
        have H2 : Hid _ := h1
        clear h1
        refine (skip_at s _ i rfl hi _ hs).mono ?_
        rintro e w' ⟨⟨k, rfl, hik, hks, hsk⟩, rfl⟩
        have HK : Hid _ := hsk
        clear hsk
        go_wp2_with fail
        go_meet
        case rel => exact ⟨k, hks, rfl, rfl, by rw [HK.out]; exact H2.out⟩
      · have h1 := H1.out.trans (st2_other s i hlt ‹_› (by omega))
        go_ret
        exact ⟨ret_b h1.symm, rfl⟩
      · have h1 := H1.out.trans (st2_other s i hlt ‹_› (by omega))
        go_ret
        exact ⟨ret_b h1.symm, rfl⟩
    · have h1 := H1.out.trans (st2_end s i hlt)
      have H2 : Hid _ := h1
      clear h1
      go_wp2_with fail
      go_ret
      exact ⟨ret_b H2.out.symm, rfl⟩
  case rest =>
  clear H1
  obtain ⟨j, hj, rfl, rfl, H2⟩ := hcut
  clear hi
  go_upto_region 9 with fail
  go_cut [60] (fun v wx => v = .bool (hb (from_ s j) (is 46)) ∧ wx = wc)
  case first =>
    by_cases h0 : j < s.size
    · have hb := hb_lt s j h0 (is 46)
      have HB : Hid _ := hb
      clear hb
      go_wp2_with fail
      go_meet
      case rel => exact ⟨by rw [HB.out]; rfl, rfl⟩
    · have hb := hb_ge s j h0 (is 46)
      have HB : Hid _ := hb
      clear hb
      go_wp2_with fail
      go_meet
      case rel => exact ⟨by rw [HB.out], rfl⟩
  case rest =>
  obtain ⟨rfl, rfl⟩ := hcut
  go_upto_if 60 with fail
  go_cut [3] (fun v wx => ∃ i : Nat, i ≤ s.size ∧ v = .int .i64 (i : Int) ∧ wx = wc ∧ Hid (jsn (from_ s 0) = jex (from_ s i)))
  case first =>
    cases h : hb (from_ s j) (is 46)
    · have h1 := H2.out.trans (st3_no s j h)
      have H1 : Hid _ := h1
      clear h1
      go_wp2_with fail
      go_meet
      case rel => exact ⟨j, hj, rfl, rfl, H1⟩
    · obtain ⟨hlt, hp⟩ := hb_some s j _ h
      have HP : Hid _ := hp
      clear hp
      go_wp2_with fail
      refine (skip_at s _ (j + 1) (by omega) (by omega) _ hs).mono ?_
      rintro e w' ⟨⟨k, rfl, hik, hks, hsk⟩, rfl⟩
      have h3 := H2.out.trans (st3_yes s j hlt HP.out hik hks hsk)
      by_cases hk : k = j + 1
      · have hkb : ((k : Int) == (j : Int) + 1) = true := by simp only [beq_iff_eq]; omega
        rw [if_pos hk] at h3
        have H3 : Hid _ := h3
        clear h3 hk hsk
        go_wp2_with fail
        go_ret
        exact ⟨ret_b H3.out.symm, rfl⟩
      · have hkb : ((k : Int) == (j : Int) + 1) = false := by simp only [beq_eq_false_iff_ne, ne_eq]; omega
        rw [if_neg hk] at h3
        have H3 : Hid _ := h3
        clear h3 hk hsk
        go_wp2_with fail
        go_meet
        case rel => exact ⟨k, hks, rfl, rfl, H3⟩
  case rest =>
  clear H2
  obtain ⟨m, hm, rfl, rfl, H3⟩ := hcut
  clear hj
  go_upto_region 14 with fail
  go_cut [84] (fun v wx => v = .bool (hb (from_ s m) isE) ∧ wx = wc)
  case first =>
    by_cases h0 : m < s.size
    · have hb := hb_lt s m h0 isE
      have HB : Hid _ := hb
      clear hb
      go_wp2_with fail
      · have hE : isE s[m] = true := by
          have h101 : (s[m].toNat : Int) = 101 := by assumption
          simp [isE, is, h101]
        have HE : Hid _ := hE
        clear hE
        go_meet
        case rel => exact ⟨by rw [HB.out, HE.out], rfl⟩
      · go_meet
        case rel => exact ⟨by rw [HB.out]; rfl, rfl⟩
    · have hb := hb_ge s m h0 isE
      have HB : Hid _ := hb
      clear hb
      go_wp2_with fail
      go_meet
      case rel => exact ⟨by rw [HB.out], rfl⟩
  case rest =>
  obtain ⟨rfl, rfl⟩ := hcut
  go_upto_if 84 with fail
  go_cut [3] (fun v wx => ∃ i : Nat, i ≤ s.size ∧ v = .int .i64 (i : Int) ∧ wx = wc ∧ Hid (jsn (from_ s 0) = decide (i = s.size)))
  case first =>
    cases h : hb (from_ s m) isE
    · have h1 := H3.out.trans (st4_no s m hm h)
      have H1 : Hid _ := h1
      clear h1
      go_wp2_with fail
      go_meet
      case rel => exact ⟨m, hm, rfl, rfl, H1⟩
    · obtain ⟨hlt, hp⟩ := hb_some s m _ h
      have h4 := H3.out.trans (st4_yes s m hlt hp)
      have H4 : Hid _ := h4
      clear h4 hp
      by_cases h1 : m + 1 < s.size
      · go_wp2_with fail
        · have hn : jsn (from_ s 0) = num (from_ s (m + 1 + 1)) := by rw [← sgn_yes s (m + 1) h1 (by omega)]; exact H4.out
          have HN : Hid _ := hn
          clear hn
          refine (skip_at s _ (m + 1 + 1) (by omega) (by omega) _ hs).mono ?_
          rintro e w' ⟨⟨k, rfl, hik, hks, hsk⟩, rfl⟩
          have h5 := HN.out.trans (num_at s (m + 1 + 1) k hik hks hsk)
          by_cases hk : k = m + 1 + 1
          · have hkb : ((k : Int) == (m : Int) + 1 + 1) = true := by simp only [beq_iff_eq]; omega
            rw [if_pos hk] at h5
            have H5 : Hid _ := h5
            clear h5 hk hsk HN H4
            go_wp2_with fail
            go_ret
            exact ⟨ret_b H5.out.symm, rfl⟩
          · have hkb : ((k : Int) == (m : Int) + 1 + 1) = false := by simp only [beq_eq_false_iff_ne, ne_eq]; omega
            rw [if_neg hk] at h5
            have H5 : Hid _ := h5
            clear h5 hk hsk HN H4
            go_wp2_with fail
            go_meet
            case rel => exact ⟨k, hks, rfl, rfl, H5⟩
        · have hn : jsn (from_ s 0) = num (from_ s (m + 1 + 1)) := by rw [← sgn_yes s (m + 1) h1 (by simp only [beq_iff_eq] at *; omega)]; exact H4.out
          have HN : Hid _ := hn
          clear hn
          refine (skip_at s _ (m + 1 + 1) (by omega) (by omega) _ hs).mono ?_
          rintro e w' ⟨⟨k, rfl, hik, hks, hsk⟩, rfl⟩
          have h5 := HN.out.trans (num_at s (m + 1 + 1) k hik hks hsk)
          by_cases hk : k = m + 1 + 1
          · have hkb : ((k : Int) == (m : Int) + 1 + 1) = true := by simp only [beq_iff_eq]; omega
            rw [if_pos hk] at h5
            have H5 : Hid _ := h5
            clear h5 hk hsk HN H4
            go_wp2_with fail
            go_ret
            exact ⟨ret_b H5.out.symm, rfl⟩
          · have hkb : ((k : Int) == (m : Int) + 1 + 1) = false := by simp only [beq_eq_false_iff_ne, ne_eq]; omega
            rw [if_neg hk] at h5
            have H5 : Hid _ := h5
            clear h5 hk hsk HN H4
            go_wp2_with fail
            go_meet
            case rel => exact ⟨k, hks, rfl, rfl, H5⟩
        · have hn : jsn (from_ s 0) = num (from_ s (m + 1)) := by rw [← sgn_no s (m + 1) h1 (by simp only [beq_eq_false_iff_ne, ne_eq] at *; omega)]; exact H4.out
          have HN : Hid _ := hn
          clear hn
          refine (skip_at s _ (m + 1) (by omega) (by omega) _ hs).mono ?_
          rintro e w' ⟨⟨k, rfl, hik, hks, hsk⟩, rfl⟩
          have h5 := HN.out.trans (num_at s (m + 1) k hik hks hsk)
          by_cases hk : k = m + 1
          · have hkb : ((k : Int) == (m : Int) + 1) = true := by simp only [beq_iff_eq]; omega
            rw [if_pos hk] at h5
            have H5 : Hid _ := h5
            clear h5 hk hsk HN H4
            go_wp2_with fail
            go_ret
            exact ⟨ret_b H5.out.symm, rfl⟩
          · have hkb : ((k : Int) == (m : Int) + 1) = false := by simp only [beq_eq_false_iff_ne, ne_eq]; omega
            rw [if_neg hk] at h5
            have H5 : Hid _ := h5
            clear h5 hk hsk HN H4
            go_wp2_with fail
            go_meet
            case rel => exact ⟨k, hks, rfl, rfl, H5⟩
      · go_wp2_with fail
        have hn : jsn (from_ s 0) = num (from_ s (m + 1)) := by rw [← sgn_end s (m + 1) h1]; exact H4.out
        have HN : Hid _ := hn
        clear hn
        refine (skip_at s _ (m + 1) (by omega) (by omega) _ hs).mono ?_
        rintro e w' ⟨⟨k, rfl, hik, hks, hsk⟩, rfl⟩
        have h5 := HN.out.trans (num_at s (m + 1) k hik hks hsk)
        by_cases hk : k = m + 1
        · have hkb : ((k : Int) == (m : Int) + 1) = true := by simp only [beq_iff_eq]; omega
          rw [if_pos hk] at h5
          have H5 : Hid _ := h5
          clear h5 hk hsk HN H4
          go_wp2_with fail
          go_ret
          exact ⟨ret_b H5.out.symm, rfl⟩
        · have hkb : ((k : Int) == (m : Int) + 1) = false := by simp only [beq_eq_false_iff_ne, ne_eq]; omega
          rw [if_neg hk] at h5
          have H5 : Hid _ := h5
          clear h5 hk hsk HN H4
          go_wp2_with fail
          go_meet
          case rel => exact ⟨k, hks, rfl, rfl, H5⟩
  case rest =>
  clear H3 hm
  obtain ⟨q, hq, rfl, rfl, H5⟩ := hcut
  go_wp2_with fail
  go_ret
  exact ⟨ret_b (by rw [beq_dec]; exact H5.out.symm), rfl⟩

theorem zzjson_any (s : ByteArray) (w : World) (hs : s.size ≤ 1048576) {b : Bool} (hb : jsn s.data.toList = b) :
    Calls Try.prog 12 #[.string s] w fun e w' => e = .returned (.bool b) ∧ w' = w := by
  have h0 : jsn (from_ s 0) = b := hb
  subst h0
  clear hb
  go_enter Try.func12, Try.ntmps12
  go_wp2_with (go_at_call 24; refine (json_any _ _ hs).mono ?_; rintro e w' ⟨rfl, rfl⟩)
  go_ret
  exact ⟨rfl, rfl⟩
end Go.Proofs.Qxb6601625a.Jsn
