/-
  THE CLOSED FACTS OF THE ROWS OF THIS SEAT, CHEAPLY: three of them ask what the dump's head says (a text of some 800 signs); reckoned in place by the kernel they cost some 11 GB and 70 seconds each.
  Here the head's text is taken as a list of signs once, and the three are drawn from its third word alone.
-/
import Derived.Test.Qxb6601625aRows
import Derived.WalkKit
import Derived.ProofKit
namespace Go.Proofs.Qxb6601625a.Head
set_option maxRecDepth 100000

/-- Of a chain of tests three are known, the others stand. -/
theorem shape {a1 a2 a3 a4 a5 a6 a7 a8 a9 a10 a11 a12 a13 a14 a15 a16 a17 a18 a19 a20 a21 a22 a23 a24 a25 a26 a27 a28 a29 a30 a31 a32 : Bool} (h26 : a26 = true) (h27 : a27 = true) (h28 : a28 = true)
    (hrest : (a1 && a2 && a3 && a4 && a5 && a6 && a7 && a8 && a9 && a10 && a11 && a12 && a13 && a14 && a15 && a16 && a17 && a18 && a19 && a20 && a21 && a22 && a23 && a24 && a25 && a29 && a30 && a31 && a32) = true) :
    (a1 && a2 && a3 && a4 && a5 && a6 && a7 && a8 && a9 && a10 && a11 && a12 && a13 && a14 && a15 && a16 && a17 && a18 && a19 && a20 && a21 && a22 && a23 && a24 && a25 && a26 && a27 && a28 && a29 && a30 && a31 && a32) = true := by
  subst h26 h27 h28
  simpa only [Bool.and_true] using hrest

theorem lifts_of (P : Program) (r : List (List Char)) (hr : behindMainWord (wordsSigns P.initOrder.toList) = "cut".toList :: r) : P.headLifts = [] := by
  unfold Program.headLifts
  rw [hr]
  rfl
theorem final_of (P : Program) (r : List (List Char)) (hr : behindMainWord (wordsSigns P.initOrder.toList) = "cut".toList :: r) (b : Bool) (hb : b = false) : (b == P.liftsFinal) = true := by
  unfold Program.liftsFinal
  rw [hr, lifts_of P r hr, hb]
  rfl
theorem make_of (P : Program) (r : List (List Char)) (hr : behindMainWord (wordsSigns P.initOrder.toList) = "cut".toList :: r) (m : Make) (hm : m = .cut) : (P.make == some m) = true := by
  unfold Program.make
  rw [hr, hm]
  rfl
theorem enter_of (P : Program) (r : List (List Char)) (hr : behindMainWord (wordsSigns P.initOrder.toList) = "cut".toList :: r) (l1 : P.laysLater = false) (l2 : P.bearsReflect = false) (l3 : P.doorFits [] = true) : P.mayEnter = true := by
  unfold Program.mayEnter
  rw [hr, l1, l2]
  have hs : stripLifts liftWords ("cut".toList :: r) = ([], "cut".toList :: r) := rfl
  simp only [hs, l3]
  rfl

/-- The third word of the head is 'cut'. -/
theorem head : ∃ r, behindMainWord (wordsSigns Try.prog.initOrder.toList) = "cut".toList :: r := by
  have e0 : Try.prog.initOrder = Try.prog.initOrder := rfl
  conv at e0 => rhs; whnf
  have e := e0.trans (show _ = String.ofList _ from rfl)
  have h : (behindMainWord (wordsSigns Try.prog.initOrder.toList)).head? = some "cut".toList := by
    rw [e, String.toList_ofList]
    show _ = some _
    kernel_rfl
  cases hw : behindMainWord (wordsSigns Try.prog.initOrder.toList) with
  | nil => rw [hw] at h; cases h
  | cons c r =>
    rw [hw] at h
    simp only [List.head?_cons, Option.some.injEq] at h
    exact ⟨r, by rw [h]⟩
theorem l1 : Try.prog.laysLater = false := by kernel_rfl
theorem l2 : Try.prog.bearsReflect = false := by kernel_rfl
theorem l3 : Try.prog.doorFits [] = true := by kernel_rfl

theorem enter : Try.prog.mayEnter = true := by
  obtain ⟨r, hr⟩ := head
  exact enter_of _ r hr l1 l2 l3
theorem final (b : Bool) (hb : b = false) : (b == Try.prog.liftsFinal) = true := by
  obtain ⟨r, hr⟩ := head
  exact final_of _ r hr b hb
theorem make (m : Make) (hm : m = .cut) : (Try.prog.make == some m) = true := by
  obtain ⟨r, hr⟩ := head
  exact make_of _ r hr m hm
end Go.Proofs.Qxb6601625a.Head
