/- The plain mathematics of the seat: a number's end, read off the list of the bytes that are left. -/
namespace Go.Proofs.Qxb6601733aMods

def hd (l : List Int) : Int := l.headD 0
def isD (c : Int) : Bool := decide (48 ≤ c ∧ c ≤ 57)
def dcnt : List Int → Nat
  | [] => 0
  | c :: l => if isD c = true then dcnt l + 1 else 0

def up (k : Nat) (o : Option Nat) : Option Nat := o.map fun q => k + q

/-- the exponent's end, counted from here; none: no number -/
def expo (l : List Int) : Option Nat :=
  if hd l = 101 ∨ hd l = 69 then
    if hd (l.drop 1) = 43 ∨ hd (l.drop 1) = 45 then
      if dcnt (l.drop 2) = 0 then none else some (2 + dcnt (l.drop 2))
    else if dcnt (l.drop 1) = 0 then none else some (1 + dcnt (l.drop 1))
  else some 0
def frac (l : List Int) : Option Nat :=
  if hd l = 46 then
    if dcnt (l.drop 1) = 0 then none else up (1 + dcnt (l.drop 1)) (expo (l.drop (1 + dcnt (l.drop 1))))
  else expo l
def intg (l : List Int) : Option Nat :=
  if hd l = 48 then up 1 (frac (l.drop 1))
  else if 49 ≤ hd l ∧ hd l ≤ 57 then up (dcnt l) (frac (l.drop (dcnt l)))
  else none
def numE (l : List Int) : Option Nat :=
  if hd l = 45 then up 1 (intg (l.drop 1)) else intg l

/-- the Go answer at index i -/
def ans (i : Nat) (o : Option Nat) : Int := match o with
  | none => -1
  | some q => ((i + q : Nat) : Int)

theorem hd_drop (zs : List Int) (k : Nat) : hd (zs.drop k) = zs.getD k 0 := by
  unfold hd
  rw [List.headD_eq_head?_getD, List.head?_drop, List.getD_eq_getElem?_getD]

theorem drop_cons (zs : List Int) (k : Nat) (h : k < zs.length) : zs.drop k = zs.getD k 0 :: zs.drop (k + 1) := by
  rw [List.drop_eq_getElem_cons h]
  simp [List.getD_eq_getElem?_getD, h]

theorem dcnt_le (l : List Int) : dcnt l ≤ l.length := by
  induction l with
  | nil => simp [dcnt]
  | cons c l ih =>
    unfold dcnt
    split
    · simp; exact ih
    · simp

theorem dcnt_drop_le (zs : List Int) (k : Nat) (h : k ≤ zs.length) : k + dcnt (zs.drop k) ≤ zs.length := by
  have := dcnt_le (zs.drop k)
  rw [List.length_drop] at this
  omega

theorem dcnt_step (zs : List Int) (k : Nat) (h : k < zs.length) (hd : isD (zs.getD k 0) = true) : dcnt (zs.drop k) = dcnt (zs.drop (k + 1)) + 1 := by
  rw [drop_cons zs k h, dcnt, if_pos hd]
theorem dcnt_stop (zs : List Int) (k : Nat) (h : k < zs.length) (hd : isD (zs.getD k 0) = false) : dcnt (zs.drop k) = 0 := by
  rw [drop_cons zs k h, dcnt, hd, if_neg Bool.false_ne_true]
theorem dcnt_end (zs : List Int) (k : Nat) (h : zs.length ≤ k) : dcnt (zs.drop k) = 0 := by
  rw [List.drop_of_length_le h]; rfl

theorem up_up (a b : Nat) (o : Option Nat) : up a (up b o) = up (a + b) o := by
  cases o <;> simp [up]; omega
theorem ans_up (i k : Nat) (o : Option Nat) : ans i (up k o) = ans (i + k) o := by
  cases o <;> simp [ans, up]; omega
end Go.Proofs.Qxb6601733aMods
