import Derived.Test.Qxb6601625aJsonPlain
import Derived.Test.Qxb6601625aRows
import Derived.WalkKit
import Derived.ProofKit
import Derived.OpenShut
import Derived.ShutString
import Derived.Laws.IdiomStrings
import Derived.Handy
namespace Go.Proofs.Qxb6601625a.Jsn
open Go.ChangeShapes Go.WideShapes Go.ChangeAt Go.RowKit
set_option linter.unusedVariables false
set_option linter.unusedSimpArgs false

def pw : Nat → Int
  | 0 => 1
  | k + 1 => pw k * 10

/-- After 20 - i rounds: the cells from i on hold digits D; u is what is left. -/
structure Ut (i : Nat) (u : Int) (D : List UInt8) (C : Array Value) : Prop where
  len : D.length + i = 20
  pos : 0 ≤ u
  lt : u < pw i
  some1 : D ≠ [] → 1 ≤ u
  digs : ∀ x, x ∈ D → dig x = true
  size : C.size = 20
  old : ∀ j, j < 20 → ∃ c : Int, C[j]? = some (.int .u8 c)
  cell : ∀ j (h : j < D.length), C[i + j]? = some (.int .u8 (D[j].toNat : Int))

theorem ut_start (u : Int) (h0 : 0 ≤ u) (h1 : u ≤ 18446744073709551615) :
    Ut 20 u [] #[.int .u8 0, .int .u8 0, .int .u8 0, .int .u8 0, .int .u8 0, .int .u8 0, .int .u8 0, .int .u8 0, .int .u8 0, .int .u8 0, .int .u8 0, .int .u8 0, .int .u8 0, .int .u8 0, .int .u8 0, .int .u8 0, .int .u8 0, .int .u8 0, .int .u8 0, .int .u8 0] := by
  refine ⟨rfl, h0, ?_, fun h => absurd rfl h, fun x hx => absurd hx (by simp), rfl, ?_, fun j h => absurd h (by simp)⟩
  · have : pw 20 = 100000000000000000000 := by decide
    omega
  · intro j hj
    refine ⟨0, ?_⟩
    have e : (#[Value.int .u8 0, Value.int .u8 0, Value.int .u8 0, Value.int .u8 0, Value.int .u8 0, Value.int .u8 0, Value.int .u8 0, Value.int .u8 0, Value.int .u8 0, Value.int .u8 0, Value.int .u8 0, Value.int .u8 0, Value.int .u8 0, Value.int .u8 0, Value.int .u8 0, Value.int .u8 0, Value.int .u8 0, Value.int .u8 0, Value.int .u8 0, Value.int .u8 0] : Array Value) = Array.replicate 20 (Value.int .u8 0) := rfl
    rw [e, Array.getElem?_replicate, if_pos hj]

theorem byte_of {c : Int} (h0 : 0 ≤ c) (h1 : c ≤ 255) : (((UInt8.ofNat c.toNat).toNat : Nat) : Int) = c := by simp; omega

/-- One digit is laid ahead of the others. -/
theorem ut_put {i : Nat} {u : Int} {D : List UInt8} {C : Array Value} (h : Ut (i + 1) u D C) (c : Int) (h0 : 48 ≤ c) (h1 : c ≤ 57) :
    let b := UInt8.ofNat c.toNat
    (∀ j (hj : j < (b :: D).length), (C.setIfInBounds i (.int .u8 c))[i + j]? = some (.int .u8 ((b :: D)[j].toNat : Int))) ∧
    (∀ x, x ∈ b :: D → dig x = true) ∧ (C.setIfInBounds i (.int .u8 c)).size = 20 ∧ (∀ j, j < 20 → ∃ c' : Int, (C.setIfInBounds i (.int .u8 c))[j]? = some (.int .u8 c')) := by
  have hb := byte_of (c := c) (by omega) (by omega)
  have hlen := h.len
  refine ⟨?_, ?_, by simp [h.size], ?_⟩
  · intro j hj
    match j, hj with
    | 0, _ =>
      rw [Nat.add_zero, Array.getElem?_setIfInBounds_self_of_lt (by rw [h.size]; omega)]
      rw [List.getElem_cons_zero, hb]
    | j + 1, hj =>
      rw [Array.getElem?_setIfInBounds_ne (by omega), List.getElem_cons_succ]
      have := h.cell j (by simpa using hj)
      rw [show i + (j + 1) = i + 1 + j from by omega]
      exact this
  · intro x hx
    rcases List.mem_cons.1 hx with rfl | hx
    · simp only [dig, decide_eq_true_eq]; omega
    · exact h.digs x hx
  · intro j hj
    by_cases e : j = i
    · subst e
      exact ⟨c, by rw [Array.getElem?_setIfInBounds_self_of_lt (by rw [h.size]; omega)]⟩
    · obtain ⟨o, ho⟩ := h.old j hj
      exact ⟨o, by rw [Array.getElem?_setIfInBounds_ne (by omega)]; exact ho⟩

theorem ut_step {i : Nat} {u : Int} {D : List UInt8} {C : Array Value} (h : Ut (i + 1) u D C) (hu : 10 ≤ u) :
    Ut i (u / 10) (UInt8.ofNat (48 + u % 10).toNat :: D) (C.setIfInBounds i (.int .u8 (48 + u % 10))) := by
  have hp := ut_put h (48 + u % 10) (by omega) (by omega)
  have hlt := h.lt
  have hlen := h.len
  simp only [pw] at hlt
  exact ⟨by simp; omega, by omega, by omega, fun _ => by omega, hp.2.1, hp.2.2.1, hp.2.2.2, hp.1⟩

theorem ut_pos {i : Nat} {u : Int} {D : List UInt8} {C : Array Value} (h : Ut i u D C) : 1 ≤ i := by
  have hlt := h.lt
  have hlen := h.len
  have hp := h.pos
  match i, h, hlt, hlen with
  | 0, h, hlt, hlen =>
    have : D ≠ [] := by intro e; rw [e] at hlen; simp at hlen
    have := h.some1 this
    simp [pw] at hlt
    omega
  | i + 1, _, _, _ => omega
theorem ut_pos2 {i : Nat} {u : Int} {D : List UInt8} {C : Array Value} (h : Ut i u D C) (hu : 10 ≤ u) : 2 ≤ i := by
  have hlt := h.lt
  have h1 := ut_pos h
  match i, hlt, h1 with
  | 1, hlt, _ => simp [pw] at hlt; omega
  | i + 2, _, _ => omega

theorem ut_end {i : Nat} {u : Int} {D : List UInt8} {C : Array Value} (h : Ut (i + 1) u D C) (hu : u < 10) : Printed (UInt8.ofNat (48 + u).toNat :: D) := by
  have hp := h.pos
  have hb := byte_of (c := 48 + u) (by omega) (by omega)
  refine ⟨_, D, rfl, h.digs, ?_⟩
  by_cases e : D = []
  · subst e
    by_cases hz : u = 0
    · left; exact ⟨by omega, rfl⟩
    · right; omega
  · have := h.some1 e
    right; omega

theorem back_utoa (w : World) {i : Nat} {D : List UInt8} {C : Array Value} (hl : D.length + i = 20) (hc : ∀ j (h : j < D.length), C[i + j]? = some (.int .u8 (D[j].toNat : Int))) (cap : Nat) :
    (convert 29 9 (.slice (some ⟨w.heap.size, i, none⟩) (20 - i) cap)).run Try.prog (w.alloc (.cells C 34)) = .ok (.string ⟨D.toArray⟩) (w.alloc (.cells C 34)) := by
  have := run_convert_bytes_back (P := Try.prog) (w.alloc (.cells C 34)) 29 9 5 ⟨w.heap.size, i, none⟩ cap D Try.underlying29 Try.underlying5 Try.underlying9 (by
    intro j hj
    rw [show (⟨w.heap.size, i, none⟩ : Addr).add j = ⟨w.heap.size, i + j, none⟩ from by simp [Addr.add], World.cell?_alloc_at _ _ _ _ rfl]
    exact hc j hj)
  rw [show D.length = 20 - i from by omega] at this
  exact this

theorem under34 : Try.prog.underlying 34 = some (.array (Try.prog.arrayLen 34) (Try.prog.elem 34)) := by kernel_rfl
theorem len34 : Try.prog.arrayLen 34 = 20 := by kernel_rfl
theorem size34 (w : World) : (Go.sizeOf (Try.prog.elem 34)).run Try.prog w = .ok 1 w := by kernel_rfl
theorem cut20 (B i : Nat) (hi : i < 20) (wx : World) :
    (Instr.sliceAt 34 (.pointer (some ⟨B, 0, none⟩)) (some (.int .i64 (i : Int))) none none).run Try.prog wx = .ok (.slice (some ⟨B, i, none⟩) (20 - i) (20 - i)) wx := by
  rw [run_sliceAt_array_l (P := Try.prog) wx 34 ⟨B, 0, none⟩ under34 .i64 (i : Int) (by omega) (by rw [len34]; omega), size34, len34]
  simp only [Result.andThen, slicedAt]
  rw [if_neg (by omega)]
  simp [Addr.add]
  omega

set_option maxRecDepth 100000 in
set_option maxHeartbeats 1000000 in
theorem utoa_any (u : Int) (h0 : 0 ≤ u) (h1 : u ≤ 18446744073709551615) (w : World) :
    Calls Try.prog 15 #[.int .u64 u] w fun e w' => (∃ D : List UInt8, e = .returned (.string ⟨D.toArray⟩) ∧ Printed D ∧ D.length ≤ 20) ∧ Grown w w' := by
  have hst := ut_start u h0 h1
  have HS : Hid _ := hst
  clear hst
  go_enter Try.func15, Try.ntmps15
  go_wp2_with fail
  go_loopw [0, 4] (fun uu ii wr => ∃ (i : Nat) (v : Int) (D : List UInt8) (C : Array Value), i ≤ 20 ∧ 0 ≤ v ∧ v ≤ 18446744073709551615 ∧ uu = .int .u64 v ∧ ii = .int .i64 (i : Int) ∧ wr = w.alloc (.cells C 34) ∧ Hid (Ut i v D C)) (fun _ ii _ => (intOf ii).toNat)
  case atStart => exact ⟨20, u, [], _, Nat.le_refl _, h0, h1, rfl, rfl, rfl, HS⟩
  case round =>
    obtain ⟨i, v, D, C, hi, hv0, hv1, rfl, rfl, rfl, hU⟩ := hrel
    by_cases hge : 10 ≤ v
    · have h2 := ut_pos2 hU.out hge
      match i, h2, hU with
      | i + 1, h2, hU =>
        obtain ⟨old, hold⟩ := hU.out.old i (by omega)
        go_wp2_with fail
        go_roundw
        case rel => exact ⟨i, v / 10, _, _, by omega, by omega, by omega, rfl, rfl, rfl, ut_step hU.out hge⟩
        case measure => simp [intOf]
    · have h2 := ut_pos hU.out
      match i, h2, hU with
      | i + 1, h2, hU =>
        obtain ⟨old, hold⟩ := hU.out.old i (by omega)
        have hsl := cut20 w.heap.size i (by omega)
        have hp := ut_put hU.out (48 + v) (by omega) (by omega)
        have hcv := back_utoa w (i := i) (by have := hU.out.len; simp; omega) hp.1 (20 - i)
        have hpr := ut_end hU.out (by omega)
        have HP : Hid _ := hpr
        have hlen : (UInt8.ofNat (48 + v).toNat :: D).length ≤ 20 := by have := hU.out.len; simp; omega
        have HL : Hid _ := hlen
        clear hp hpr hlen
        go_wp2_with fail
        go_ret
        exact ⟨⟨_, rfl, HP.out, HL.out⟩, (Grown.refl _).alloc _ _⟩

theorem utoa_str (u : Int) (h0 : 0 ≤ u) (h1 : u ≤ 18446744073709551615) (w : World) :
    Calls Try.prog 15 #[.int .u64 u] w fun e w' => (∃ D : ByteArray, e = .returned (.string D) ∧ Printed D.data.toList ∧ D.size ≤ 20) ∧ Grown w w' :=
  (utoa_any u h0 h1 w).mono fun e w' ⟨⟨D, he, hp, hl⟩, hg⟩ => ⟨⟨⟨D.toArray⟩, he, by simpa using hp, by show D.toArray.size ≤ 20; simpa using hl⟩, hg⟩

/-- '+' of two texts: what comes out, under a name. -/
theorem cat (a b : ByteArray) (h : a.size + b.size ≤ 1048576) :
    ∃ s : ByteArray, (∀ wx, (Op.stringOp .add a b).run Try.prog wx = .ok (.string s) wx) ∧ s.data.toList = a.data.toList ++ b.data.toList ∧ s.size = a.size + b.size :=
  ⟨a ++ b, fun wx => run_string_add_sum wx _ _ (by omega), by simp [ByteArray.data_append], by simp⟩

theorem grown_step {a b c : World} (h : Grown a b) (k : Grown b c) : Grown a c :=
  ⟨World.keptBut_trans h.1 k.1, fun x => (k.2.1 x).trans (h.2.1 x), Nat.le_trans h.2.2 k.2.2⟩

set_option maxRecDepth 100000 in
set_option maxHeartbeats 1000000 in
theorem itoa_any (n : Int) (h0 : -9223372036854775808 ≤ n) (h1 : n ≤ 9223372036854775807) (w : World) :
    Calls Try.prog 14 #[.int .i64 n] w fun e w' => (∃ D : ByteArray, e = .returned (.string D) ∧ PrintedI D.data.toList ∧ D.size ≤ 21) ∧ Grown w w' := by
  by_cases hn : n < 0
  · go_enter Try.func14, Try.ntmps14
    go_wp2_with fail
    refine (utoa_str _ (by rw [IntKind.wrap_u64]; omega) (by rw [IntKind.wrap_u64]; omega) w).mono ?_
    rintro e w' ⟨⟨D, rfl, hp, hl⟩, hg⟩
    obtain ⟨s, hrun, hd, hsz⟩ := cat ⟨#[45]⟩ D (by show 1 + D.size ≤ _; omega)
    have HP : Hid _ := hp
    have HD : Hid _ := hd
    have HZ : Hid _ := hsz
    clear hp hd hsz
    go_wp2_with fail
    go_ret
    refine ⟨⟨s, rfl, Or.inr ⟨D.data.toList, ?_, HP.out⟩, ?_⟩, hg⟩
    · rw [HD.out]; rfl
    · rw [HZ.out]; show 1 + D.size ≤ 21; omega
  · go_enter Try.func14, Try.ntmps14
    go_wp2_with fail
    refine (utoa_str _ (by omega) (by omega) w).mono ?_
    rintro e w' ⟨⟨D, rfl, hp, hl⟩, hg⟩
    go_wp2_with fail
    go_ret
    exact ⟨⟨D, rfl, Or.inl hp, by omega⟩, hg⟩
end Go.Proofs.Qxb6601625a.Jsn
