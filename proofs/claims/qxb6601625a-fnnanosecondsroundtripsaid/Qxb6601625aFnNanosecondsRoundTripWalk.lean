import Derived.Test.Qxb6601625aNanos
import Derived.Laws.IdiomStrings
import Derived.Handy
namespace Go.Proofs.Qxb6601625a.RoundW
open Go.ChangeShapes Go.WideShapes Go.ChangeAt Go.RowKit
set_option linter.unusedVariables false
set_option linter.unusedSimpArgs false

theorem byte_of {c : Int} (h0 : 0 ≤ c) (h1 : c ≤ 255) : (((UInt8.ofNat c.toNat).toNat : Nat) : Int) = c := by simp; omega

/-- The nine decimal digits of n, as bytes. -/
def decL (n : Int) : List UInt8 := [UInt8.ofNat (48 + n / 10 / 10 / 10 / 10 / 10 / 10 / 10 / 10 % 10).toNat, UInt8.ofNat (48 + n / 10 / 10 / 10 / 10 / 10 / 10 / 10 % 10).toNat, UInt8.ofNat (48 + n / 10 / 10 / 10 / 10 / 10 / 10 % 10).toNat, UInt8.ofNat (48 + n / 10 / 10 / 10 / 10 / 10 % 10).toNat, UInt8.ofNat (48 + n / 10 / 10 / 10 / 10 % 10).toNat, UInt8.ofNat (48 + n / 10 / 10 / 10 % 10).toNat, UInt8.ofNat (48 + n / 10 / 10 % 10).toNat, UInt8.ofNat (48 + n / 10 % 10).toNat, UInt8.ofNat (48 + n % 10).toNat]
def dec9 (n : Int) : ByteArray := ⟨(decL n).toArray⟩
theorem dec9_size (n : Int) : (dec9 n).size = 9 := rfl

theorem back9 (w : World) (n : Int) (h0 : 0 ≤ n) :
    (convert 29 9 (.slice (some ⟨w.heap.size, 0, none⟩) 9 9)).run Try.prog (w.alloc (.cells #[.int .u8 (48 + n / 10 / 10 / 10 / 10 / 10 / 10 / 10 / 10 % 10), .int .u8 (48 + n / 10 / 10 / 10 / 10 / 10 / 10 / 10 % 10), .int .u8 (48 + n / 10 / 10 / 10 / 10 / 10 / 10 % 10), .int .u8 (48 + n / 10 / 10 / 10 / 10 / 10 % 10), .int .u8 (48 + n / 10 / 10 / 10 / 10 % 10), .int .u8 (48 + n / 10 / 10 / 10 % 10), .int .u8 (48 + n / 10 / 10 % 10), .int .u8 (48 + n / 10 % 10), .int .u8 (48 + n % 10)] 32)) = .ok (.string (dec9 n)) (w.alloc (.cells #[.int .u8 (48 + n / 10 / 10 / 10 / 10 / 10 / 10 / 10 / 10 % 10), .int .u8 (48 + n / 10 / 10 / 10 / 10 / 10 / 10 / 10 % 10), .int .u8 (48 + n / 10 / 10 / 10 / 10 / 10 / 10 % 10), .int .u8 (48 + n / 10 / 10 / 10 / 10 / 10 % 10), .int .u8 (48 + n / 10 / 10 / 10 / 10 % 10), .int .u8 (48 + n / 10 / 10 / 10 % 10), .int .u8 (48 + n / 10 / 10 % 10), .int .u8 (48 + n / 10 % 10), .int .u8 (48 + n % 10)] 32)) := by
  refine run_convert_bytes_back (P := Try.prog) (w.alloc (.cells #[.int .u8 (48 + n / 10 / 10 / 10 / 10 / 10 / 10 / 10 / 10 % 10), .int .u8 (48 + n / 10 / 10 / 10 / 10 / 10 / 10 / 10 % 10), .int .u8 (48 + n / 10 / 10 / 10 / 10 / 10 / 10 % 10), .int .u8 (48 + n / 10 / 10 / 10 / 10 / 10 % 10), .int .u8 (48 + n / 10 / 10 / 10 / 10 % 10), .int .u8 (48 + n / 10 / 10 / 10 % 10), .int .u8 (48 + n / 10 / 10 % 10), .int .u8 (48 + n / 10 % 10), .int .u8 (48 + n % 10)] 32)) 29 9 5 ⟨w.heap.size, 0, none⟩ 9 (decL n) Try.underlying29 Try.underlying5 Try.underlying9 ?_
  intro j hj
  rw [show (⟨w.heap.size, 0, none⟩ : Addr).add j = ⟨w.heap.size, j, none⟩ from by simp [Addr.add]; omega, World.cell?_alloc_at _ _ _ _ rfl]
  have hj9 : j < 9 := hj
  match j, hj9 with
  | 0, _ => exact congrArg (fun c => some (Value.int .u8 c)) (byte_of (c := 48 + n / 10 / 10 / 10 / 10 / 10 / 10 / 10 / 10 % 10) (by omega) (by omega)).symm
  | 1, _ => exact congrArg (fun c => some (Value.int .u8 c)) (byte_of (c := 48 + n / 10 / 10 / 10 / 10 / 10 / 10 / 10 % 10) (by omega) (by omega)).symm
  | 2, _ => exact congrArg (fun c => some (Value.int .u8 c)) (byte_of (c := 48 + n / 10 / 10 / 10 / 10 / 10 / 10 % 10) (by omega) (by omega)).symm
  | 3, _ => exact congrArg (fun c => some (Value.int .u8 c)) (byte_of (c := 48 + n / 10 / 10 / 10 / 10 / 10 % 10) (by omega) (by omega)).symm
  | 4, _ => exact congrArg (fun c => some (Value.int .u8 c)) (byte_of (c := 48 + n / 10 / 10 / 10 / 10 % 10) (by omega) (by omega)).symm
  | 5, _ => exact congrArg (fun c => some (Value.int .u8 c)) (byte_of (c := 48 + n / 10 / 10 / 10 % 10) (by omega) (by omega)).symm
  | 6, _ => exact congrArg (fun c => some (Value.int .u8 c)) (byte_of (c := 48 + n / 10 / 10 % 10) (by omega) (by omega)).symm
  | 7, _ => exact congrArg (fun c => some (Value.int .u8 c)) (byte_of (c := 48 + n / 10 % 10) (by omega) (by omega)).symm
  | 8, _ => exact congrArg (fun c => some (Value.int .u8 c)) (byte_of (c := 48 + n % 10) (by omega) (by omega)).symm

theorem dg_at (n : Int) (j : Nat) (c : Int) (h : j < 9) (hc : (((dec9 n)[j]'(by rw [dec9_size]; exact h)).toNat : Int) = 48 + c) (h0 : 0 ≤ c) (h1 : c ≤ 9) : Nan.dg (dec9 n) j = c := by
  rw [Nan.dg_of _ j (by rw [dec9_size]; exact h), hc]; omega
theorem dg0 (n : Int) (h : 0 ≤ n) : Nan.dg (dec9 n) 0 = n / 10 / 10 / 10 / 10 / 10 / 10 / 10 / 10 % 10 := dg_at n 0 _ (by omega) (byte_of (c := 48 + n / 10 / 10 / 10 / 10 / 10 / 10 / 10 / 10 % 10) (by omega) (by omega)) (by omega) (by omega)
theorem dg1 (n : Int) (h : 0 ≤ n) : Nan.dg (dec9 n) 1 = n / 10 / 10 / 10 / 10 / 10 / 10 / 10 % 10 := dg_at n 1 _ (by omega) (byte_of (c := 48 + n / 10 / 10 / 10 / 10 / 10 / 10 / 10 % 10) (by omega) (by omega)) (by omega) (by omega)
theorem dg2 (n : Int) (h : 0 ≤ n) : Nan.dg (dec9 n) 2 = n / 10 / 10 / 10 / 10 / 10 / 10 % 10 := dg_at n 2 _ (by omega) (byte_of (c := 48 + n / 10 / 10 / 10 / 10 / 10 / 10 % 10) (by omega) (by omega)) (by omega) (by omega)
theorem dg3 (n : Int) (h : 0 ≤ n) : Nan.dg (dec9 n) 3 = n / 10 / 10 / 10 / 10 / 10 % 10 := dg_at n 3 _ (by omega) (byte_of (c := 48 + n / 10 / 10 / 10 / 10 / 10 % 10) (by omega) (by omega)) (by omega) (by omega)
theorem dg4 (n : Int) (h : 0 ≤ n) : Nan.dg (dec9 n) 4 = n / 10 / 10 / 10 / 10 % 10 := dg_at n 4 _ (by omega) (byte_of (c := 48 + n / 10 / 10 / 10 / 10 % 10) (by omega) (by omega)) (by omega) (by omega)
theorem dg5 (n : Int) (h : 0 ≤ n) : Nan.dg (dec9 n) 5 = n / 10 / 10 / 10 % 10 := dg_at n 5 _ (by omega) (byte_of (c := 48 + n / 10 / 10 / 10 % 10) (by omega) (by omega)) (by omega) (by omega)
theorem dg6 (n : Int) (h : 0 ≤ n) : Nan.dg (dec9 n) 6 = n / 10 / 10 % 10 := dg_at n 6 _ (by omega) (byte_of (c := 48 + n / 10 / 10 % 10) (by omega) (by omega)) (by omega) (by omega)
theorem dg7 (n : Int) (h : 0 ≤ n) : Nan.dg (dec9 n) 7 = n / 10 % 10 := dg_at n 7 _ (by omega) (byte_of (c := 48 + n / 10 % 10) (by omega) (by omega)) (by omega) (by omega)
theorem dg8 (n : Int) (h : 0 ≤ n) : Nan.dg (dec9 n) 8 = n % 10 := dg_at n 8 _ (by omega) (byte_of (c := 48 + n % 10) (by omega) (by omega)) (by omega) (by omega)

theorem nano_dec (n : Int) (h0 : 0 ≤ n) (h1 : n ≤ 999999999) : Nan.nano (dec9 n) 9 = n := by
  simp only [Nan.nano, dg0 n h0, dg1 n h0, dg2 n h0, dg3 n h0, dg4 n h0, dg5 n h0, dg6 n h0, dg7 n h0, dg8 n h0]
  omega

theorem dg_append (s t : ByteArray) (j : Nat) (h : j < s.size) : Nan.dg (s ++ t) j = Nan.dg s j := by
  rw [Nan.dg_of s j h, Nan.dg_of (s ++ t) j (by simp; omega)]
  rw [ByteArray.getElem_append_left h]

theorem nano_suffix (n : Int) (h0 : 0 ≤ n) (h1 : n ≤ 999999999) (t : ByteArray) : Nan.nano (dec9 n ++ t) 9 = n := by
  rw [Nan.nano_congr _ (dec9 n) 9 (fun j hj => dg_append _ _ j (by rw [dec9_size]; exact hj)), nano_dec n h0 h1]

/-- A text whose trailing zeros may have been cut off. -/
def Trim (d t : ByteArray) : Prop := t.size ≤ 9 ∧ ∀ j, Nan.dg t j = Nan.dg d j
theorem trim_cut {d t : ByteArray} (h : Trim d t) (h0 : 0 < t.size) (hz : ((t[t.size - 1]'(by omega)).toNat : Int) = 48) : Trim d (t.extract 0 (t.size - 1)) := by
  have hs : (t.extract 0 (t.size - 1)).size = t.size - 1 := by simp
  refine ⟨by have := h.1; omega, fun j => ?_⟩
  rw [← h.2 j]
  by_cases e : j < t.size - 1
  · rw [Nan.dg_of _ j (by omega), Nan.dg_of t j (by omega)]
    simp [ByteArray.getElem_extract]
  · rw [Nan.dg_no _ j (by omega)]
    by_cases e2 : j < t.size
    · rw [Nan.dg_of t j e2]
      have : j = t.size - 1 := by omega
      subst this
      rw [hz]; rfl
    · rw [Nan.dg_no t j e2]
theorem trim_nano {n : Int} (h0 : 0 ≤ n) (h1 : n ≤ 999999999) {t : ByteArray} (h : Trim (dec9 n) t) : Nan.nano t 9 = n := by
  rw [Nan.nano_congr _ (dec9 n) 9 (fun j _ => h.2 j), nano_dec n h0 h1]
theorem add_run (n : Int) (t : ByteArray) (h : t.size ≤ 1048576) (wx : World) :
    (Op.stringOp .add (dec9 n) t).run Try.prog wx = .ok (.string (dec9 n ++ t)) wx :=
  run_string_add_sum wx _ _ (by rw [dec9_size]; omega)
def strLen : Value → Nat | .string b => b.size | _ => 0

set_option maxHeartbeats 1000000 in
theorem walk (a0 : Int) (a1 : ByteArray) (w0 : (Lit.int .i64 a0).wf = true) (w1 : a1.size ≤ maxLen) (w : World) :
    Calls Try.prog 9 #[.int .i64 a0, .string a1] w fun e w' => e = .returned (.bool true) ∧ Grown w w' := by
  by_cases h1 : a1.size ≤ 1048576
  · by_cases hr : 0 ≤ a0 ∧ a0 ≤ 999999999
    · obtain ⟨hr0, hr1⟩ := hr
      have hd0 : decide (a0 < 0) = false := by simp; omega
      have hd1 : decide (999999999 < a0) = false := by simp; omega
      go_enter Try.func9, Try.ntmps9
      go_wp2_with go_in
      have hcv := back9 w a0 hr0
      refine wp_loop_rounds 10 ?_
      iterate 9 (rw [rounds_succ]; go_wp2)
      rw [rounds_succ]
      go_wp2_with fail
      have hN := nano_dec a0 hr0 hr1
      have hsd : (dec9 a0).size ≤ maxLen := by rw [dec9_size]; unfold maxLen; omega
      clear hcv
      refine (Nan.zznanos_any _ _ hsd).mono ?_
      rintro e w' ⟨rfl, rfl⟩
      go_wp2_with fail
      have HN : Hid _ := hN
      clear hN
      go_loop [9] (fun v => ∃ t : ByteArray, v = .string t ∧ Hid (Trim (dec9 a0) t)) (fun v => strLen v)
      case atStart => exact ⟨dec9 a0, rfl, by rw [dec9_size]; omega, fun j => rfl⟩
      case round =>
        obtain ⟨t, rfl, ht⟩ := hrel
        have hst : t.size ≤ 9 := ht.out.1
        by_cases hp : 0 < t.size
        · go_wp2_with fail
          · have hz : ((t[t.size - 1]'(by omega)).toNat : Int) = 48 := by
              have h48 : (((t[t.size - 1]'(by omega)).toNat : Int) == 48) = true := by assumption
              simpa using h48
            go_round
            case rel => exact ⟨_, rfl, trim_cut ht.out hp hz⟩
            case measure => simp [strLen]; omega
          · have hT := trim_nano hr0 hr1 ht.out
            have hst2 : t.size ≤ maxLen := by unfold maxLen; omega
            refine (Nan.zznanos_any _ _ hst2).mono ?_
            rintro e w' ⟨rfl, rfl⟩
            have hsum := add_run a0 a1 h1
            go_wp2_with fail
            clear hsum hT
            have hS := nano_suffix a0 hr0 hr1 a1
            have hsz : (dec9 a0 ++ a1).size ≤ maxLen := by rw [ByteArray.size_append, dec9_size]; unfold maxLen; omega
            refine (Nan.zznanos_any _ _ hsz).mono ?_
            rintro e w' ⟨rfl, rfl⟩
            go_wp2
            go_ret
            exact ⟨rfl, (Grown.refl _).alloc _ _⟩
        · go_wp2_with fail
          have hT := trim_nano hr0 hr1 ht.out
          have hst2 : t.size ≤ maxLen := by unfold maxLen; omega
          refine (Nan.zznanos_any _ _ hst2).mono ?_
          rintro e w' ⟨rfl, rfl⟩
          have hsum := add_run a0 a1 h1
          go_wp2_with fail
          clear hsum hT
          have hS := nano_suffix a0 hr0 hr1 a1
          have hsz : (dec9 a0 ++ a1).size ≤ maxLen := by rw [ByteArray.size_append, dec9_size]; unfold maxLen; omega
          refine (Nan.zznanos_any _ _ hsz).mono ?_
          rintro e w' ⟨rfl, rfl⟩
          go_wp2
          go_ret
          exact ⟨rfl, (Grown.refl _).alloc _ _⟩
    · by_cases hr0 : a0 < 0
      · go_enter Try.func9, Try.ntmps9
        go_wp2
        all_goals go_ret
        all_goals exact ⟨rfl, Grown.refl _⟩
      · have hr1 : 999999999 < a0 := by omega
        clear hr
        go_enter Try.func9, Try.ntmps9
        go_wp2
        all_goals go_ret
        all_goals exact ⟨rfl, Grown.refl _⟩
  · go_enter Try.func9, Try.ntmps9
    go_wp2
    all_goals go_ret
    all_goals exact ⟨rfl, Grown.refl _⟩
end Go.Proofs.Qxb6601625a.RoundW
