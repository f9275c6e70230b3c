namespace Go.Proofs.Qxb6001343a.Cb

/-! ### closingQuote and closingBracket over lists of bytes: how many bytes are taken up to the closer. No Go in sight. -/
/-- Does the list begin with a byte of whom p says yes? -/
def hd (l : List UInt8) (p : UInt8 → Bool) : Bool := match l with | [] => false | c :: _ => p c
def is (n : Int) (c : UInt8) : Bool := (c.toNat : Int) == n

/-- The bytes up to and with the quote q that closes; the list begins behind the opening quote. -/
def cq (q : UInt8) : List UInt8 → Option Nat
  | [] => none
  | [c] => if (is 34 q && is 92 c) = true then none else if c.toNat = q.toNat then some 1 else none
  | c :: d :: r =>
    if (is 34 q && is 92 c) = true then (cq q r).map (· + 2)
    else if (decide (c.toNat = q.toNat) && is 39 q && is 39 d) = true then (cq q r).map (· + 2)
    else if c.toNat = q.toNat then some 1
    else (cq q (d :: r)).map (· + 1)
theorem cq_nil (q : UInt8) : cq q [] = none := by simp [cq]
theorem cq_esc (q c : UInt8) (r : List UInt8) (h : (is 34 q && is 92 c) = true) : cq q (c :: r) = (cq q r.tail).map (· + 2) := by
  cases r with
  | nil => simp [cq, h]
  | cons d r => simp only [cq, if_pos h, List.tail_cons]
theorem cq_two (q c : UInt8) (r : List UInt8) (h : (is 34 q && is 92 c) = false) (h1 : c.toNat = q.toNat) (h2 : is 39 q = true) (h3 : hd r (is 39) = true) : cq q (c :: r) = (cq q r.tail).map (· + 2) := by
  cases r with
  | nil => simp [hd] at h3
  | cons d r =>
    have h3' : is 39 d = true := h3
    simp only [cq, h, h1, h2, h3', List.tail_cons]
    simp
theorem cq_end (q c : UInt8) (r : List UInt8) (h : (is 34 q && is 92 c) = false) (h1 : c.toNat = q.toNat) (h2 : (is 39 q && hd r (is 39)) = false) : cq q (c :: r) = some 1 := by
  cases r with
  | nil => simp [cq, h, h1]
  | cons d r =>
    have h2' : (is 39 q && is 39 d) = false := h2
    simp only [cq, h, h1]
    simp [h2']
theorem cq_on (q c : UInt8) (r : List UInt8) (h : (is 34 q && is 92 c) = false) (h1 : ¬ c.toNat = q.toNat) : cq q (c :: r) = (cq q r).map (· + 1) := by
  cases r with
  | nil => simp [cq, h, h1]
  | cons d r =>
    simp only [cq, h, h1]
    simp

def sp (c : UInt8) : Bool := is 32 c || is 9 c
def fl (c : UInt8) : Bool := is 44 c || is 91 c || is 93 c || is 123 c || is 125 c
def opens (c : UInt8) : Bool := is 91 c || is 123 c
def closes (c : UInt8) : Bool := is 93 c || is 125 c
def quote (c : UInt8) : Bool := is 39 c || is 34 c
/-- Does a node start behind c? -/
def nsN (c : UInt8) (ns : Bool) (r : List UInt8) : Bool := is 44 c || ((is 63 c || is 58 c) && (ns || hd r (fun x => sp x || fl x)))

def cb : Nat → List UInt8 → Int → Bool → Option Nat
  | 0, _, _, _ => none
  | _ + 1, [], _, _ => none
  | f + 1, c :: r, d, ns =>
    if sp c = true then (if hd r (is 35) = true then none else (cb f r d ns).map (· + 1))
    else if opens c = true then (cb f r (d + 1) true).map (· + 1)
    else if closes c = true then (if d - 1 = 0 then some 1 else (cb f r (d - 1) false).map (· + 1))
    else if (quote c && ns) = true then (match cq c r with | none => none | some k => (cb f (r.drop k) d false).map (· + (k + 1)))
    else (cb f r d (nsN c ns r)).map (· + 1)

theorem cb_nil (f : Nat) (d : Int) (ns : Bool) : cb f [] d ns = none := by cases f <;> rfl
theorem cb_cons (f : Nat) (c : UInt8) (r : List UInt8) (d : Int) (ns : Bool) : cb (f + 1) (c :: r) d ns =
    if sp c = true then (if hd r (is 35) = true then none else (cb f r d ns).map (· + 1))
    else if opens c = true then (cb f r (d + 1) true).map (· + 1)
    else if closes c = true then (if d - 1 = 0 then some 1 else (cb f r (d - 1) false).map (· + 1))
    else if (quote c && ns) = true then (match cq c r with | none => none | some k => (cb f (r.drop k) d false).map (· + (k + 1)))
    else (cb f r d (nsN c ns r)).map (· + 1) := rfl

/-- WHERE AN ANSWER COMES, A CLOSER STANDS THERE. -/
def Lands (l : List UInt8) (k : Nat) : Prop := 1 ≤ k ∧ k ≤ l.length ∧ ∃ x, l[k - 1]? = some x ∧ closes x = true
theorem lands_cons {c : UInt8} {r : List UInt8} {k : Nat} (h : Lands r k) : Lands (c :: r) (k + 1) := by
  obtain ⟨h1, h2, x, h3, h4⟩ := h
  refine ⟨by omega, by simp; omega, x, ?_, h4⟩
  rw [show k + 1 - 1 = (k - 1) + 1 from by omega, List.getElem?_cons_succ]
  exact h3
theorem lands_drop {r : List UInt8} {j k : Nat} (h : Lands (r.drop j) k) : Lands r (k + j) := by
  obtain ⟨h1, h2, x, h3, h4⟩ := h
  rw [List.length_drop] at h2
  refine ⟨by omega, by omega, x, ?_, h4⟩
  rw [List.getElem?_drop] at h3
  rw [show k + j - 1 = j + (k - 1) from by omega]
  exact h3
theorem cb_lands : ∀ (f : Nat) (l : List UInt8) (d : Int) (ns : Bool) (k : Nat), cb f l d ns = some k → Lands l k
  | 0, _, _, _, _, h => by cases h
  | f + 1, [], d, ns, k, h => by cases h
  | f + 1, c :: r, d, ns, k, h => by
    rw [cb_cons] at h
    have on : ∀ (d' : Int) (ns' : Bool), (cb f r d' ns').map (· + 1) = some k → Lands (c :: r) k := by
      intro d' ns' h'
      obtain ⟨j, hj, rfl⟩ := Option.map_eq_some_iff.1 h'
      exact lands_cons (cb_lands f r d' ns' j hj)
    by_cases h1 : sp c = true
    · rw [if_pos h1] at h
      by_cases h2 : hd r (is 35) = true
      · rw [if_pos h2] at h; cases h
      · rw [if_neg h2] at h; exact on _ _ h
    · rw [if_neg h1] at h
      by_cases h2 : opens c = true
      · rw [if_pos h2] at h; exact on _ _ h
      · rw [if_neg h2] at h
        by_cases h3 : closes c = true
        · rw [if_pos h3] at h
          by_cases h4 : d - 1 = 0
          · rw [if_pos h4] at h
            cases h
            exact ⟨by omega, by simp, c, rfl, h3⟩
          · rw [if_neg h4] at h; exact on _ _ h
        · rw [if_neg h3] at h
          by_cases h4 : (quote c && ns) = true
          · rw [if_pos h4] at h
            cases hq : cq c r with
            | none => rw [hq] at h; cases h
            | some j =>
              rw [hq] at h
              obtain ⟨i, hi, rfl⟩ := Option.map_eq_some_iff.1 h
              have := lands_cons (c := c) (lands_drop (cb_lands f (r.drop j) d false i hi))
              rw [show i + (j + 1) = i + j + 1 from by omega]
              exact this
          · rw [if_neg h4] at h; exact on _ _ h

/-- The place that an answer names: -1, or so many bytes behind 'base'. -/
def res (base : Nat) (o : Option Nat) : Int := match o with | none => -1 | some k => (base : Int) + k
theorem res_none (b : Nat) : res b none = -1 := rfl
theorem res_some (b k : Nat) : res b (some k) = (b : Int) + k := rfl
theorem res_map (b k : Nat) (o : Option Nat) : res b (o.map (· + k)) = res (b + k) o := by
  cases o with
  | none => rfl
  | some j => simp only [Option.map_some, res]; omega
end Go.Proofs.Qxb6001343a.Cb
