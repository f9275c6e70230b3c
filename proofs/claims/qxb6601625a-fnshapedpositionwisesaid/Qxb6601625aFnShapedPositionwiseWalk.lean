import Derived.Test.Qxb6601625aShaped
import Derived.Deep.QuietTactic
import Derived.BigQuiet
import Derived.Deep.RegionWith
namespace Go.Proofs.Qxb6601625a.PosW
open Go.ChangeShapes Go.WideShapes Go.ChangeAt Go.RowKit
set_option linter.unusedVariables false
set_option linter.unusedSimpArgs false

theorem grown_drewN (w : World) (n : Nat) : Grown w (w.drewN n) := by
  have h : ∀ m, Grown w (w.drewN m) := by
    intro m
    induction m with
    | zero => exact Grown.refl w
    | succ m ih => exact Grown.drew ih
  exact h n

theorem grown_more {w wr : World} (h : ∃ n, wr = w.drewN n) : Grown w wr := by
  obtain ⟨n, rfl⟩ := h
  exact grown_drewN w n
theorem drewN_more {w wr : World} (h : ∃ n, wr = w.drewN n) (m : Nat) : ∃ n, wr.drewN m = w.drewN n := by
  obtain ⟨n, rfl⟩ := h
  exact ⟨n + m, World.drewN_drewN ..⟩

theorem bt_cut (s : ByteArray) (k : Nat) (h : k < s.size) : Shp.bt (s.extract k (k + 1)) 0 = Shp.bt s k := by
  have h1 : (s.extract k (k + 1)).size = 1 := by simp; omega
  rw [Shp.bt_of _ 0 (by omega), Shp.bt_of s k h]
  simp [ByteArray.getElem_extract]

theorem shp_cut (t l : ByteArray) (k : Nat) (h : k < t.size) (hl : k < l.size) : Shp.shp (t.extract k (k + 1)) (l.extract k (k + 1)) = Shp.okB (Shp.bt t k) (Shp.bt l k) := by
  have h1 : (t.extract k (k + 1)).size = 1 := by simp; omega
  have h2 : (l.extract k (k + 1)).size = 1 := by simp; omega
  unfold Shp.shp
  rw [h1, h2]
  simp [bt_cut t k h, bt_cut l k hl]

theorem wrap_succ (k : Nat) (h : k < 524288) : IntKind.i64.wrap ((k : Int) + 1) = (k : Int) + 1 := IntWalk.i64_in _ ⟨by omega, by omega⟩

theorem cut_run (s : ByteArray) (k : Nat) (h : k < s.size) (wx : World) :
    (Instr.slice 9 (.string s) (some (.int .i64 (k : Int))) (some (.int .i64 ((k : Int) + 1))) none).run Try.prog wx = .ok (.string (s.extract k (k + 1))) wx := by
  have := run_slice_string wx 9 s .i64 .i64 (k : Int) ((k : Int) + 1) Try.underlying9 (by omega) (by omega) (by omega)
  rw [show ((k : Int)).toNat = k from by omega, show ((k : Int) + 1).toNat = k + 1 from by omega] at this
  exact this

theorem cut_call (t l : ByteArray) (k : Nat) (h : k < t.size) (hl : k < l.size) {b : Bool} (hb : Shp.okB (Shp.bt t k) (Shp.bt l k) = b) (w : World) :
    Calls Try.prog 17 #[.string (t.extract k (k + 1)), .string (l.extract k (k + 1))] w fun e w' => e = .returned (.bool b) ∧ w' = w := by
  have h1 : (t.extract k (k + 1)).size ≤ maxLen := by unfold maxLen; simp; omega
  have h2 : (l.extract k (k + 1)).size ≤ maxLen := by unfold maxLen; simp; omega
  have := Shp.zzshaped_any _ _ w h1 h2
  rw [shp_cut t l k h hl, hb] at this
  exact this

set_option maxHeartbeats 400000 in
theorem walk (a0 : ByteArray) (a1 : ByteArray) (w0 : a0.size ≤ maxLen) (w1 : a1.size ≤ maxLen) (w : World) :
    Calls Try.prog 6 #[.string a0, .string a1] w fun e w' => e = .returned (.bool true) ∧ Grown w w' := by
  by_cases h0 : a0.size ≤ 524288
  · by_cases h1 : a1.size ≤ 524288
    · by_cases hsz : a0.size = a1.size
      · have hb : ((a0.size : Int) != (a1.size : Int)) = false := by simp [hsz]
        have HZ : Hid (a0.size = a1.size) := hsz
        have hz1 : a0.size ≤ a1.size := by omega
        have hz2 : a1.size ≤ a0.size := by omega
        have hd0 : decide (524288 < (a0.size : Int)) = false := by simp; omega
        have hd1 : decide (524288 < (a1.size : Int)) = false := by simp; omega
        clear hsz
        go_enter Try.func6, Try.ntmps6
        go_wp2_with (first
          | (go_at_call 17; refine (Shp.zzshaped_any _ _ _ w0 w1).mono ?_; rintro e w' ⟨rfl, rfl⟩)
          | go_in)
        go_loopw [6, 7] (fun b i wr => ∃ k : Nat, k ≤ a1.size ∧ i = .int .i64 k ∧ b = .bool true ∧ Hid (∀ j, j < k → Shp.okB (Shp.bt a0 j) (Shp.bt a1 j) = true) ∧ Hid (∃ n, wr = w'.drewN n)) (fun _ i _ => a1.size - (intOf i).toNat)
        case atStart => exact ⟨0, Nat.zero_le _, rfl, rfl, fun j hj => by omega, ⟨0, rfl⟩⟩
        case round =>
          obtain ⟨k, hk, rfl, rfl, hall, HW⟩ := hrel
          by_cases hlt : k < a1.size
          · have hlt0 : k < a0.size := by omega
            cases hok : Shp.okB (Shp.bt a0 k) (Shp.bt a1 k)
            · have hcall := cut_call a0 a1 k hlt0 hlt hok
              have hno := Shp.shp_no hlt hok
              have HNO : Hid _ := hno
              clear hno hok
              go_wp2
              have hwr := wrap_succ k (by omega)
              have hs0 := cut_run a0 k hlt0
              have hs1 := cut_run a1 k hlt
              go_quiet ((go_at_call 17; exact Calls.quiet_of_same (hcall _)))
              clear hcall hwr hs0 hs1
              go_wp2
              go_ret
              exact ⟨by rw [HNO.out]; rfl, grown_more (drewN_more HW.out _)⟩
            · have hcall := cut_call a0 a1 k hlt0 hlt hok
              have HK : Hid _ := hok
              clear hok
              go_wp2
              have hwr := wrap_succ k (by omega)
              have hs0 := cut_run a0 k hlt0
              have hs1 := cut_run a1 k hlt
              go_quiet ((go_at_call 17; exact Calls.quiet_of_same (hcall _)))
              clear hcall hwr hs0 hs1
              go_wp2
              go_roundw
              case rel => exact ⟨k + 1, by omega, by go_num, rfl, Shp.all_succ hall.out HK.out, drewN_more HW.out _⟩
              case measure => simp [intOf]; omega
          · go_wp2
            have hyes := Shp.shp_yes HZ.out (fun j hj => hall.out j (by omega))
            go_ret
            exact ⟨by rw [hyes]; rfl, grown_more HW.out⟩
      · have hb : ((a0.size : Int) != (a1.size : Int)) = true := by simp; omega
        have hf := Shp.shp_ne hsz
        go_enter Try.func6, Try.ntmps6
        go_wp2_with (first
          | (go_at_call 17; refine (Shp.zzshaped_any _ _ _ w0 w1).mono ?_; rintro e w' ⟨rfl, rfl⟩)
          | go_in)
        go_ret
        exact ⟨rfl, Grown.refl _⟩
    · go_enter Try.func6, Try.ntmps6
      go_wp2
      all_goals go_ret
      all_goals exact ⟨rfl, Grown.refl _⟩
  · go_enter Try.func6, Try.ntmps6
    go_wp2
    all_goals go_ret
    all_goals exact ⟨rfl, Grown.refl _⟩
end Go.Proofs.Qxb6601625a.PosW
