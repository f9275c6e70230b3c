namespace Go.Proofs.Qxb6601625a.Jsn

/-! ### The plain reading of a JSON number over lists of bytes: no Go in sight. -/
def dig (c : UInt8) : Bool := decide (48 ≤ c.toNat ∧ c.toNat ≤ 57)
/-- Behind the digits at the head. -/
def skl : List UInt8 → List UInt8
  | [] => []
  | c :: r => if dig c = true then skl r else c :: r
def sgn : List UInt8 → List UInt8
  | [] => []
  | c :: r => if c.toNat = 43 ∨ c.toNat = 45 then r else c :: r
def num (r : List UInt8) : Bool := if (skl r).length = r.length then false else decide ((skl r).length = 0)
def jex : List UInt8 → Bool
  | [] => true
  | c :: r => if c.toNat = 101 ∨ c.toNat = 69 then num (sgn r) else false
def jfr : List UInt8 → Bool
  | [] => true
  | c :: r => if c.toNat = 46 then (if (skl r).length = r.length then false else jex (skl r)) else jex (c :: r)
def jint : List UInt8 → Bool
  | [] => false
  | c :: r => if c.toNat = 48 then jfr r else if 49 ≤ c.toNat ∧ c.toNat ≤ 57 then jfr (skl (c :: r)) else false
def jmin : List UInt8 → List UInt8
  | [] => []
  | c :: r => if c.toNat = 45 then r else c :: r
def jsn (l : List UInt8) : Bool := jint (jmin l)

theorem sgn_cons (c : UInt8) (r : List UInt8) : sgn (c :: r) = if c.toNat = 43 ∨ c.toNat = 45 then r else c :: r := rfl
theorem jex_cons (c : UInt8) (r : List UInt8) : jex (c :: r) = if c.toNat = 101 ∨ c.toNat = 69 then num (sgn r) else false := rfl
theorem jfr_cons (c : UInt8) (r : List UInt8) : jfr (c :: r) = if c.toNat = 46 then (if (skl r).length = r.length then false else jex (skl r)) else jex (c :: r) := rfl
theorem jint_cons (c : UInt8) (r : List UInt8) : jint (c :: r) = if c.toNat = 48 then jfr r else if 49 ≤ c.toNat ∧ c.toNat ≤ 57 then jfr (skl (c :: r)) else false := rfl
theorem jmin_cons (c : UInt8) (r : List UInt8) : jmin (c :: r) = if c.toNat = 45 then r else c :: r := rfl

theorem skl_len : ∀ l : List UInt8, (skl l).length ≤ l.length
  | [] => by simp [skl]
  | c :: r => by
    have := skl_len r
    unfold skl
    split
    · simp; omega
    · simp

/-- Digits at the head, then what is no digit, or nothing. -/
def Stops : List UInt8 → Prop
  | [] => True
  | c :: _ => dig c = false
theorem stops_of {c : UInt8} {r : List UInt8} (h : dig c = false) : Stops (c :: r) := h
theorem skl_stops {r : List UInt8} (h : Stops r) : skl r = r := by
  cases r with
  | nil => rfl
  | cons c r => unfold skl; rw [if_neg (by rw [show dig c = false from h]; simp)]
theorem skl_app : ∀ (d r : List UInt8), (∀ c, c ∈ d → dig c = true) → Stops r → skl (d ++ r) = r
  | [], r, _, h => skl_stops h
  | c :: d, r, hd, h => by
    show skl (c :: (d ++ r)) = r
    unfold skl
    rw [if_pos (hd c (by simp))]
    exact skl_app d r (fun x hx => hd x (by simp [hx])) h

/-- A printed natural number: '0', or a digit from 1 on and digits. -/
structure Printed (l : List UInt8) : Prop where
  parts : ∃ c d, l = c :: d ∧ (∀ x, x ∈ d → dig x = true) ∧ ((c.toNat = 48 ∧ d = []) ∨ (49 ≤ c.toNat ∧ c.toNat ≤ 57))
/-- A printed integer: a sign or none. -/
def PrintedI (l : List UInt8) : Prop := Printed l ∨ ∃ r, l = 45 :: r ∧ Printed r

theorem Printed.all {l : List UInt8} (h : Printed l) : ∀ x, x ∈ l → dig x = true := by
  obtain ⟨c, d, rfl, hd, hc⟩ := h.parts
  intro x hx
  rcases List.mem_cons.1 hx with rfl | hx
  · simp [dig]; omega
  · exact hd x hx
theorem Printed.ne {l : List UInt8} (h : Printed l) : 0 < l.length := by
  obtain ⟨c, d, rfl, _, _⟩ := h.parts
  simp

/-- What stands behind a printed number is read on from there. -/
theorem jint_printed {l r : List UInt8} (h : Printed l) (hr : Stops r) : jint (l ++ r) = jfr r := by
  obtain ⟨c, d, rfl, hd, hc⟩ := h.parts
  show jint (c :: (d ++ r)) = jfr r
  rw [jint_cons]
  rcases hc with ⟨hc, rfl⟩ | hc
  · rw [if_pos hc]; rfl
  · rw [if_neg (by omega), if_pos hc]
    have : skl (c :: (d ++ r)) = r := skl_app (c :: d) r (fun x hx => h.all x hx) hr
    rw [this]
theorem jsn_printed {l r : List UInt8} (h : PrintedI l) (hr : Stops r) : jsn (l ++ r) = jfr r := by
  unfold jsn
  rcases h with h | ⟨t, rfl, h⟩
  · have : jmin (l ++ r) = l ++ r := by
      obtain ⟨c, d, rfl, hd, hc⟩ := h.parts
      show jmin (c :: (d ++ r)) = _
      rw [jmin_cons]
      rw [if_neg (by omega)]; rfl
    rw [this]; exact jint_printed h hr
  · have : jmin ((45 :: t) ++ r) = t ++ r := by
      show jmin (45 :: (t ++ r)) = _
      rw [jmin_cons]
      rw [if_pos (by decide)]
    rw [this]; exact jint_printed h hr

theorem num_digits {f : List UInt8} (h : ∀ x, x ∈ f → dig x = true) (hn : 0 < f.length) : num f = true := by
  have : skl f = [] := by simpa using skl_app f [] h trivial
  unfold num
  rw [this]
  simp; omega
theorem sgn_digits {f : List UInt8} (h : Printed f) : sgn f = f := by
  obtain ⟨c, d, rfl, hd, hc⟩ := h.parts
  rw [sgn_cons]
  rw [if_neg (by omega)]
theorem num_int {x : List UInt8} (h : PrintedI x) : num (sgn x) = true := by
  rcases h with h | ⟨t, rfl, h⟩
  · rw [sgn_digits h]; exact num_digits h.all h.ne
  · rw [sgn_cons]
    rw [if_pos (by decide)]; exact num_digits h.all h.ne
theorem jfr_dot {f r : List UInt8} (h : Printed f) (hr : Stops r) : jfr (46 :: (f ++ r)) = jex r := by
  rw [jfr_cons]
  have hn := h.ne
  rw [if_pos (by decide), skl_app f r h.all hr, if_neg (by rw [List.length_append]; omega)]
theorem jex_e {c : UInt8} {x : List UInt8} (hc : c.toNat = 101 ∨ c.toNat = 69) : jex (c :: x) = num (sgn x) := by
  rw [jex_cons]
  rw [if_pos hc]

section laws
variable {a f x : List UInt8} (ha : PrintedI a) (hf : Printed f) (hx : PrintedI x)
theorem law1 (ha : PrintedI a) : jsn a = true := by
  have := jsn_printed ha (r := []) trivial
  simpa [jfr] using this
theorem law2 (ha : PrintedI a) (hf : Printed f) : jsn (a ++ [46] ++ f) = true := by
  rw [List.append_assoc, jsn_printed ha (r := [46] ++ f) (stops_of rfl)]
  have := jfr_dot hf (r := []) trivial
  simpa [jex] using this
theorem law3 (ha : PrintedI a) (hx : PrintedI x) : jsn (a ++ [101] ++ x) = true := by
  rw [List.append_assoc, jsn_printed ha (r := [101] ++ x) (stops_of rfl)]
  show jfr (101 :: x) = true
  rw [jfr_cons]
  rw [if_neg (by decide), jex_e (by decide), num_int hx]
theorem law4 (ha : PrintedI a) (hf : Printed f) : jsn (a ++ [46] ++ f ++ [69, 43] ++ f) = true := by
  rw [show a ++ [46] ++ f ++ [69, 43] ++ f = a ++ (46 :: (f ++ (69 :: 43 :: f))) from by simp, jsn_printed ha (stops_of rfl), jfr_dot hf (stops_of rfl), jex_e (by decide)]
  show num (sgn (43 :: f)) = true
  rw [sgn_cons]
  rw [if_pos (by decide), num_digits hf.all hf.ne]
theorem law5 (ha : PrintedI a) (hf : Printed f) (hx : PrintedI x) : jsn (a ++ [46] ++ f ++ [101] ++ x) = true := by
  rw [show a ++ [46] ++ f ++ [101] ++ x = a ++ (46 :: (f ++ (101 :: x))) from by simp, jsn_printed ha (stops_of rfl), jfr_dot hf (stops_of rfl), jex_e (by decide), num_int hx]
theorem law6 (ha : PrintedI a) : jsn (a ++ [46]) = false := by
  rw [jsn_printed ha (stops_of rfl)]; rfl
theorem law7 (ha : PrintedI a) : jsn (a ++ [101]) = false := by
  rw [jsn_printed ha (stops_of rfl)]; rfl
theorem law8 (ha : PrintedI a) : jsn (a ++ [46, 101] ++ x) = false := by
  rw [show a ++ [46, 101] ++ x = a ++ (46 :: 101 :: x) from by simp, jsn_printed ha (stops_of rfl)]
  rw [jfr_cons]
  rw [if_pos (by decide), skl_stops (r := 101 :: x) (stops_of rfl), if_pos rfl]
theorem law9 : jsn ([43] ++ f) = false := by
  show jint (jmin (43 :: f)) = false
  rw [jmin_cons]
  rw [if_neg (by decide)]
  rw [jint_cons]
  rw [if_neg (by decide), if_neg (by decide)]
theorem law10 : jsn ([46] ++ f) = false := by
  show jint (jmin (46 :: f)) = false
  rw [jmin_cons]
  rw [if_neg (by decide)]
  rw [jint_cons]
  rw [if_neg (by decide), if_neg (by decide)]
theorem jfr_digit (hf : Printed f) : jfr f = false := by
  obtain ⟨c, d, rfl, hd, hc⟩ := hf.parts
  rw [jfr_cons]
  rw [if_neg (by omega)]
  rw [jex_cons]
  rw [if_neg (by omega)]
theorem law11 (hf : Printed f) : jsn ([48] ++ f) = false := by
  show jint (jmin (48 :: f)) = false
  rw [jmin_cons]
  rw [if_neg (by decide)]
  rw [jint_cons]
  rw [if_pos (by decide), jfr_digit hf]
theorem law12 (hf : Printed f) : jsn ([45, 48] ++ f) = false := by
  show jint (jmin (45 :: 48 :: f)) = false
  rw [jmin_cons]
  rw [if_pos (by decide)]
  rw [jint_cons]
  rw [if_pos (by decide), jfr_digit hf]
end laws
end Go.Proofs.Qxb6601625a.Jsn
