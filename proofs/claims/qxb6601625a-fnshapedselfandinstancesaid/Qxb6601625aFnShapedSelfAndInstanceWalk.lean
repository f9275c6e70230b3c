import Derived.Test.Qxb6601625aShaped
import Derived.Deep.OwnRows
import Derived.Laws.IdiomStrings
import Derived.Handy
namespace Go.Proofs.Qxb6601625a.SelfW
open Go.ChangeShapes Go.WideShapes Go.ChangeAt Go.RowKit
set_option linter.unusedVariables false
set_option linter.unusedSimpArgs false

theorem info5 : (Try.prog.info? 5).map (fun i => (i.zero, i.size, i.bytes)) = some (some (.int .u8 0), 1, 1) := by kernel_rfl

/-- Does one of the first k bytes of s read 'd'? -/
def HasD (s : ByteArray) (k : Nat) : Prop := ∃ j, j < k ∧ Shp.bt s j = 100

theorem self_no {s : ByteArray} {b : Bool} (h : b = true ↔ HasD s s.size) : (Shp.shp s s == b) = false := by
  cases b
  · have hn : ∀ j, j < s.size → Shp.okB (Shp.bt s j) (Shp.bt s j) = true := by
      intro j hj
      have hne : Shp.bt s j ≠ 100 := fun e => by simpa using h.2 ⟨j, hj, e⟩
      apply Shp.okB_yes
      omega
    rw [Shp.shp_yes rfl hn]; rfl
  · obtain ⟨j, hj, e⟩ := h.1 rfl
    rw [Shp.shp_no hj (by rw [e]; rfl)]; rfl

theorem hasD_yes {s : ByteArray} {k : Nat} (h : Shp.bt s k = 100) : true = true ↔ HasD s (k + 1) :=
  ⟨fun _ => ⟨k, by omega, h⟩, fun _ => rfl⟩
theorem hasD_no {s : ByteArray} {k : Nat} {v : Bool} (h : Shp.bt s k ≠ 100) (hv : v = true ↔ HasD s k) : v = true ↔ HasD s (k + 1) := by
  rw [hv]
  constructor
  · rintro ⟨j, hj, e⟩; exact ⟨j, by omega, e⟩
  · rintro ⟨j, hj, e⟩
    by_cases hjk : j = k
    · exact absurd (hjk ▸ e) h
    · exact ⟨j, by omega, e⟩

/-- The first k cells of the new array hold the bytes L, each of which fits the layout's byte at its place. -/
structure Inst (s : ByteArray) (k : Nat) (L : List UInt8) (C : Array Value) : Prop where
  size : C.size = s.size
  old : ∀ j, j < s.size → ∃ c : Int, C[j]? = some (.int .u8 c)
  cell : ∀ j (h : j < L.length), C[j]? = some (.int .u8 (L[j].toNat : Int))
  fits : ∀ j (h : j < L.length), Shp.okB (L[j].toNat : Int) (Shp.bt s j) = true

theorem inst_start (s : ByteArray) : Inst s 0 [] (madeCells #[.int .u8 0] s.size) := by
  refine ⟨size_madeCells _ _, ?_, fun j h => absurd h (by simp), fun j h => absurd h (by simp)⟩
  intro j hj
  refine ⟨0, ?_⟩
  simp [madeCells, hj, Nat.mod_one]

theorem inst_step {s : ByteArray} {k : Nat} {L : List UInt8} {C : Array Value} (h : Inst s k L C) (hL : L.length = k) (hk : k < s.size) (c : Int) (h0 : 0 ≤ c) (h1 : c ≤ 255)
    (hf : Shp.okB c (Shp.bt s k) = true) : Inst s (k + 1) (L ++ [UInt8.ofNat c.toNat]) (C.setIfInBounds k (.int .u8 c)) := by
  have hc : (((UInt8.ofNat c.toNat).toNat : Nat) : Int) = c := by simp; omega
  refine ⟨by simp [h.size], ?_, ?_, ?_⟩
  · intro j hj
    by_cases e : j = k
    · subst e
      exact ⟨c, by rw [Array.getElem?_setIfInBounds_self_of_lt (by rw [h.size]; exact hj)]⟩
    · obtain ⟨o, ho⟩ := h.old j hj
      exact ⟨o, by rw [Array.getElem?_setIfInBounds_ne (by omega)]; exact ho⟩
  · intro j hj
    simp at hj
    by_cases e : j = k
    · subst e
      rw [Array.getElem?_setIfInBounds_self_of_lt (by rw [h.size]; exact hk)]
      rw [List.getElem_append_right (by omega)]
      simp only [hL, Nat.sub_self, List.getElem_cons_zero]
      rw [hc]
    · rw [Array.getElem?_setIfInBounds_ne (by omega), h.cell j (by omega), List.getElem_append_left (by omega)]
  · intro j hj
    simp at hj
    by_cases e : j = k
    · subst e
      rw [List.getElem_append_right (by omega)]
      simp only [hL, Nat.sub_self, List.getElem_cons_zero]
      rw [hc]; exact hf
    · rw [List.getElem_append_left (by omega)]
      exact h.fits j (by omega)

theorem ok_d {c l : Int} (h : (l == 100) = true) (h0 : 48 ≤ c) (h1 : c ≤ 57) : Shp.okB c l = true := by
  simp only [beq_iff_eq] at h
  exact Shp.okB_yes (Or.inl ⟨h, h0, h1⟩)
theorem ok_T {l : Int} (h : (l == 84) = true) : Shp.okB 116 l = true := by
  simp only [beq_iff_eq] at h
  subst h; rfl
theorem ok_self {l : Int} (h : (l == 100) = false) (h' : (l == 84) = false) : Shp.okB l l = true := by
  simp only [beq_eq_false_iff_ne, ne_eq] at h h'
  exact Shp.okB_yes (Or.inr (Or.inr ⟨h, h', rfl⟩))

theorem back_run (w : World) {s : ByteArray} {k : Nat} {L : List UInt8} {C : Array Value} (h : Inst s k L C) (hL : L.length = s.size) :
    (convert 29 9 (.slice (some ⟨w.heap.size, 0, none⟩) s.size s.size)).run Try.prog (w.alloc (.cells C 5)) = .ok (.string ⟨L.toArray⟩) (w.alloc (.cells C 5)) := by
  have := run_convert_bytes_back (P := Try.prog) (w.alloc (.cells C 5)) 29 9 5 ⟨w.heap.size, 0, none⟩ s.size L Try.underlying29 Try.underlying5 Try.underlying9 (by
    intro j hj
    rw [show (⟨w.heap.size, 0, none⟩ : Addr).add j = ⟨w.heap.size, j, none⟩ from by simp [Addr.add]; omega, World.cell?_alloc_at _ _ _ _ rfl]
    exact h.cell j hj)
  rw [hL] at this
  exact this

theorem inst_end {s : ByteArray} {k : Nat} {L : List UInt8} {C : Array Value} (h : Inst s k L C) (hL : L.length = s.size) : Shp.shp ⟨L.toArray⟩ s = true := by
  have hs : (⟨L.toArray⟩ : ByteArray).size = s.size := by rw [← hL]; rfl
  refine Shp.shp_yes hs (fun j hj => ?_)
  rw [Shp.bt_of _ j (by omega)]
  exact h.fits j (by omega)

set_option maxHeartbeats 1000000 in
theorem walk (a0 : ByteArray) (a1 : ByteArray) (w0 : a0.size ≤ maxLen) (w1 : a1.size ≤ maxLen) (w : World) :
    Calls Try.prog 7 #[.string a0, .string a1] w fun e w' => e = .returned (.bool true) ∧ Grown w w' := by
  by_cases h0 : a0.size ≤ 524288
  · by_cases h1 : a1.size ≤ 524288
    · have hd0 : decide (524288 < (a0.size : Int)) = false := by simp; omega
      have hd1 : decide (524288 < (a1.size : Int)) = false := by simp; omega
      have hmk := run_make_row' (P := Try.prog) 29 5 (.int .u8 0) 1 Try.underlying29 info5 rfl .i64 .i64 a0.size (by omega) (by omega)
      go_enter Try.func7, Try.ntmps7
      go_wp2_with go_in
      go_loop [5, 6] (fun b i => ∃ (k : Nat) (v : Bool), k ≤ a0.size ∧ i = .int .i64 k ∧ b = .bool v ∧ Hid (v = true ↔ HasD a0 k)) (fun _ i => a0.size - (intOf i).toNat)
      case atStart => exact ⟨0, false, Nat.zero_le _, rfl, rfl, by simp [Hid, HasD]⟩
      case round =>
        obtain ⟨k, v, hk, rfl, rfl, hv⟩ := hrel
        by_cases hlt : k < a0.size
        · go_wp2
          · have hc : Shp.bt a0 k = 100 := by rw [Shp.bt_of a0 k hlt]; simp only [beq_iff_eq] at *; omega
            go_round
            case rel => exact ⟨k + 1, true, by omega, by go_num, rfl, hasD_yes hc⟩
            case measure => simp [intOf]; omega
          · have hc : Shp.bt a0 k ≠ 100 := by rw [Shp.bt_of a0 k hlt]; simp only [beq_eq_false_iff_ne, ne_eq] at *; omega
            go_round
            case rel => exact ⟨k + 1, v, by omega, by go_num, rfl, hasD_no hc hv.out⟩
            case measure => simp [intOf]; omega
        · have hno := self_no (s := a0) (b := v) (by have : k = a0.size := by omega
                                                     rw [← this]; exact hv.out)
          clear hv
          go_wp2_with (first
            | (go_at_call 17; refine (Shp.zzshaped_any _ _ _ w0 w0).mono ?_; rintro e w' ⟨rfl, rfl⟩))
          clear hno hmk
          go_loopw [8, 9] (fun q i wr => ∃ (k m : Nat) (L : List UInt8) (C : Array Value), k ≤ a0.size ∧ m ≤ k ∧ i = .int .i64 k ∧ q = .int .i64 m ∧ L.length = k ∧
              wr = w'.alloc (.cells C 5) ∧ Hid (Inst a0 k L C)) (fun _ i _ => a0.size - (intOf i).toNat)
          case atStart => exact ⟨0, 0, [], _, Nat.zero_le _, Nat.le_refl _, rfl, rfl, rfl, rfl, inst_start a0⟩
          case round =>
            obtain ⟨k, m, L, C, hk, hmk, rfl, rfl, hL, rfl, hI⟩ := hrel
            have HL : Hid _ := hL
            clear hL
            by_cases hlt : k < a0.size
            · obtain ⟨old, hold⟩ := hI.out.old k hlt
              have hbk := Shp.bt_of a0 k hlt
              have HB : Hid _ := hbk
              clear hbk
              have hb8 := a0[k].toNat_lt
              by_cases hz : 0 < a1.size
              · have hz1 : ((a1.size : Int) == 0) = false := by simp only [beq_eq_false_iff_ne]; omega
                have hz2 : ¬ a1 = ByteArray.empty := by intro e; rw [e] at hz; simp at hz
                have hm0 : 0 ≤ (m : Int) % (a1.size : Int) := Int.emod_nonneg _ (by omega)
                have hm1 : (m : Int) % (a1.size : Int) < (a1.size : Int) := Int.emod_lt_of_pos _ (by omega)
                go_wp2
                · go_roundw
                  case rel => exact ⟨k + 1, m + 1, _, _, by omega, by omega, by go_num, by go_num, by rw [List.length_append, HL.out]; rfl, rfl, inst_step hI.out HL.out hlt _ (by omega) (by omega) (by rw [HB.out]; exact ok_d ‹_› (by omega) (by omega))⟩
                  case measure => simp [intOf]; omega
                · go_roundw
                  case rel => exact ⟨k + 1, m, _, _, by omega, by omega, by go_num, by go_num, by rw [List.length_append, HL.out]; rfl, rfl, inst_step hI.out HL.out hlt _ (by omega) (by omega) (by rw [HB.out]; exact ok_T ‹_›)⟩
                  case measure => simp [intOf]; omega
                · go_roundw
                  case rel => exact ⟨k + 1, m, _, _, by omega, by omega, by go_num, by go_num, by rw [List.length_append, HL.out]; rfl, rfl, inst_step hI.out HL.out hlt _ (by omega) (by omega) (by rw [HB.out]; exact ok_self ‹_› ‹_›)⟩
                  case measure => simp [intOf]; omega
              · have hz1 : ((a1.size : Int) == 0) = true := by simp only [beq_iff_eq]; omega
                go_wp2
                · go_roundw
                  case rel => exact ⟨k + 1, m + 1, _, _, by omega, by omega, by go_num, by go_num, by rw [List.length_append, HL.out]; rfl, rfl, inst_step hI.out HL.out hlt _ (by omega) (by omega) (by rw [HB.out]; exact ok_d ‹_› (by omega) (by omega))⟩
                  case measure => simp [intOf]; omega
                · go_roundw
                  case rel => exact ⟨k + 1, m, _, _, by omega, by omega, by go_num, by go_num, by rw [List.length_append, HL.out]; rfl, rfl, inst_step hI.out HL.out hlt _ (by omega) (by omega) (by rw [HB.out]; exact ok_T ‹_›)⟩
                  case measure => simp [intOf]; omega
                · go_roundw
                  case rel => exact ⟨k + 1, m, _, _, by omega, by omega, by go_num, by go_num, by rw [List.length_append, HL.out]; rfl, rfl, inst_step hI.out HL.out hlt _ (by omega) (by omega) (by rw [HB.out]; exact ok_self ‹_› ‹_›)⟩
                  case measure => simp [intOf]; omega
            · have hk' : k = a0.size := by omega
              have hcv := back_run w' hI.out (by rw [HL.out, hk'])
              have hyes := inst_end hI.out (by rw [HL.out, hk'])
              have hszL : (⟨L.toArray⟩ : ByteArray).size ≤ maxLen := by
                show L.toArray.size ≤ maxLen
                rw [List.size_toArray, HL.out]; omega
              clear hI hk'
              go_wp2_with (go_at_call 17; refine (Shp.zzshaped_any _ _ _ hszL w0).mono ?_; rintro e w' ⟨rfl, rfl⟩)
              go_ret
              exact ⟨rfl, (Grown.refl _).alloc _ _⟩
    · go_enter Try.func7, Try.ntmps7
      go_wp2
      all_goals go_ret
      all_goals exact ⟨rfl, Grown.refl _⟩
  · go_enter Try.func7, Try.ntmps7
    go_wp2
    all_goals go_ret
    all_goals exact ⟨rfl, Grown.refl _⟩
end Go.Proofs.Qxb6601625a.SelfW
