import Derived.Test.Qxb6601625aJson
import Derived.Test.Qxb6601625aUtoa
namespace Go.Proofs.Qxb6601625a.Jsn
open Go.ChangeShapes Go.WideShapes Go.ChangeAt Go.RowKit
set_option linter.unusedVariables false
set_option linter.unusedSimpArgs false

/-! ### What '+' makes of texts, under names that the walk does not open; and what 'ZZisJSONNumber' says of the last. -/
theorem cat1 (a b : ByteArray) (h : a.size + b.size ≤ 1048576) {v : Bool} (hj : jsn (a.data.toList ++ b.data.toList) = v) :
    ∃ s, (∀ wx, (Op.stringOp .add a b).run Try.prog wx = .ok (.string s) wx) ∧ ∀ w, Calls Try.prog 12 #[.string s] w fun e w' => e = .returned (.bool v) ∧ w' = w := by
  obtain ⟨s, h1, h2, h3⟩ := cat a b h
  exact ⟨s, h1, fun w => zzjson_any s w (by omega) (by rw [h2]; exact hj)⟩
theorem cat2 (a b c : ByteArray) (h : a.size + b.size + c.size ≤ 1048576) {v : Bool} (hj : jsn (a.data.toList ++ b.data.toList ++ c.data.toList) = v) :
    ∃ s1 s2, (∀ wx, (Op.stringOp .add a b).run Try.prog wx = .ok (.string s1) wx) ∧ (∀ wx, (Op.stringOp .add s1 c).run Try.prog wx = .ok (.string s2) wx) ∧
      ∀ w, Calls Try.prog 12 #[.string s2] w fun e w' => e = .returned (.bool v) ∧ w' = w := by
  obtain ⟨s, h1, h2, h3⟩ := cat a b (by omega)
  obtain ⟨t, k1, k2⟩ := cat1 s c (by omega) (v := v) (by rw [h2]; exact hj)
  exact ⟨s, t, h1, k1, k2⟩
theorem cat4 (a b c d f : ByteArray) (h : a.size + b.size + c.size + d.size + f.size ≤ 1048576) {v : Bool} (hj : jsn (a.data.toList ++ b.data.toList ++ c.data.toList ++ d.data.toList ++ f.data.toList) = v) :
    ∃ s1 s2 s3 s4, (∀ wx, (Op.stringOp .add a b).run Try.prog wx = .ok (.string s1) wx) ∧ (∀ wx, (Op.stringOp .add s1 c).run Try.prog wx = .ok (.string s2) wx) ∧
      (∀ wx, (Op.stringOp .add s2 d).run Try.prog wx = .ok (.string s3) wx) ∧ (∀ wx, (Op.stringOp .add s3 f).run Try.prog wx = .ok (.string s4) wx) ∧
      ∀ w, Calls Try.prog 12 #[.string s4] w fun e w' => e = .returned (.bool v) ∧ w' = w := by
  obtain ⟨s, h1, h2, h3⟩ := cat a b (by omega)
  obtain ⟨t, k1, k2, k3⟩ := cat s c (by omega)
  obtain ⟨x, y, l1, l2, l3⟩ := cat2 t d f (by omega) (v := v) (by rw [k2, h2]; exact hj)
  exact ⟨s, t, x, y, h1, k1, l1, l2, l3⟩

set_option maxRecDepth 100000 in
set_option maxHeartbeats 4000000 in
theorem walk (a0 : Int) (a1 : Int) (a2 : Int) (w0 : (Lit.int .i64 a0).wf = true) (w1 : (Lit.int .u64 a1).wf = true) (w2 : (Lit.int .i64 a2).wf = true) (w : World) :
    Calls Try.prog 5 #[.int .i64 a0, .int .u64 a1, .int .i64 a2] w fun e w' => e = .returned (.bool true) ∧ Grown w w' := by
  have b0 := bounds_i64 w0
  have b1 := bounds_u64 w1
  have b2 := bounds_i64 w2
  go_enter Try.func5, Try.ntmps5
  go_wp2_with fail
  refine (itoa_any a0 (by omega) (by omega) _).mono ?_
  rintro e wa ⟨⟨A, rfl, hA, zA⟩, ga⟩
  go_wp2_with fail
  refine (utoa_str a1 (by omega) (by omega) _).mono ?_
  rintro e wb ⟨⟨F, rfl, hF, zF⟩, gb⟩
  go_wp2_with fail
  refine (itoa_any a2 (by omega) (by omega) _).mono ?_
  rintro e wc ⟨⟨X, rfl, hX, zX⟩, gc⟩
  have g : Grown w wc := grown_step ga (grown_step gb gc)
  clear ga gb gc b0 b1 b2 w0 w1 w2
  have HA : Hid _ := hA
  have HF : Hid _ := hF
  have HX : Hid _ := hX
  clear hA hF hX
  go_wp2_with fail
  refine (zzjson_any A _ (by omega) (law1 HA.out)).mono ?_
  rintro e w' ⟨rfl, rfl⟩
  obtain ⟨s1, s2, r1, r2, hc⟩ := cat2 A ⟨#[46]⟩ F (by show A.size + 1 + F.size ≤ 1048576; omega) (law2 HA.out HF.out)
  have HC : Hid _ := hc
  clear hc
  go_wp2_with fail
  refine (HC.out _).mono ?_
  rintro e w' ⟨rfl, rfl⟩
  clear r1 r2 HC
  obtain ⟨s1, s2, r1, r2, hc⟩ := cat2 A ⟨#[101]⟩ X (by show A.size + 1 + X.size ≤ 1048576; omega) (law3 HA.out HX.out)
  have HC : Hid _ := hc
  clear hc
  go_wp2_with fail
  refine (HC.out _).mono ?_
  rintro e w' ⟨rfl, rfl⟩
  clear r1 r2 HC
  obtain ⟨s1, s2, s3, s4, r1, r2, r3, r4, hc⟩ := cat4 A ⟨#[46]⟩ F ⟨#[69, 43]⟩ F (by show A.size + 1 + F.size + 2 + F.size ≤ 1048576; omega) (law4 HA.out HF.out)
  have HC : Hid _ := hc
  clear hc
  go_wp2_with fail
  refine (HC.out _).mono ?_
  rintro e w' ⟨rfl, rfl⟩
  clear r1 r2 r3 r4 HC
  obtain ⟨s1, s2, s3, s4, r1, r2, r3, r4, hc⟩ := cat4 A ⟨#[46]⟩ F ⟨#[101]⟩ X (by show A.size + 1 + F.size + 1 + X.size ≤ 1048576; omega) (law5 HA.out HF.out HX.out)
  have HC : Hid _ := hc
  clear hc
  go_wp2_with fail
  refine (HC.out _).mono ?_
  rintro e w' ⟨rfl, rfl⟩
  clear r1 r2 r3 r4 HC
  obtain ⟨s1, r1, hc⟩ := cat1 A ⟨#[46]⟩ (by show A.size + 1 ≤ 1048576; omega) (law6 HA.out)
  have HC : Hid _ := hc
  clear hc
  go_wp2_with fail
  refine (HC.out _).mono ?_
  rintro e w' ⟨rfl, rfl⟩
  clear r1 HC
  obtain ⟨s1, r1, hc⟩ := cat1 A ⟨#[101]⟩ (by show A.size + 1 ≤ 1048576; omega) (law7 HA.out)
  have HC : Hid _ := hc
  clear hc
  go_wp2_with fail
  refine (HC.out _).mono ?_
  rintro e w' ⟨rfl, rfl⟩
  clear r1 HC
  obtain ⟨s1, s2, r1, r2, hc⟩ := cat2 A ⟨#[46, 101]⟩ X (by show A.size + 2 + X.size ≤ 1048576; omega) (law8 HA.out)
  have HC : Hid _ := hc
  clear hc
  go_wp2_with fail
  refine (HC.out _).mono ?_
  rintro e w' ⟨rfl, rfl⟩
  clear r1 r2 HC
  obtain ⟨s1, r1, hc⟩ := cat1 ⟨#[43]⟩ F (by show 1 + F.size ≤ 1048576; omega) law9
  have HC : Hid _ := hc
  clear hc
  go_wp2_with fail
  refine (HC.out _).mono ?_
  rintro e w' ⟨rfl, rfl⟩
  clear r1 HC
  obtain ⟨s1, r1, hc⟩ := cat1 ⟨#[46]⟩ F (by show 1 + F.size ≤ 1048576; omega) law10
  have HC : Hid _ := hc
  clear hc
  go_wp2_with fail
  refine (HC.out _).mono ?_
  rintro e w' ⟨rfl, rfl⟩
  clear r1 HC
  obtain ⟨s1, r1, hc⟩ := cat1 ⟨#[48]⟩ F (by show 1 + F.size ≤ 1048576; omega) (law11 HF.out)
  have HC : Hid _ := hc
  clear hc
  go_wp2_with fail
  refine (HC.out _).mono ?_
  rintro e w' ⟨rfl, rfl⟩
  clear r1 HC
  obtain ⟨s1, r1, hc⟩ := cat1 ⟨#[45, 48]⟩ F (by show 2 + F.size ≤ 1048576; omega) (law12 HF.out)
  have HC : Hid _ := hc
  clear hc
  go_wp2_with fail
  refine (HC.out _).mono ?_
  rintro e w' ⟨rfl, rfl⟩
  clear r1 HC
  go_wp2_with fail
  go_ret
  exact ⟨rfl, g⟩
end Go.Proofs.Qxb6601625a.Jsn
