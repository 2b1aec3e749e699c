import Derived.Test.Qxb6601733aModsBounds
/- The automaton, and why it answers as the number's end does. -/
namespace Go.Proofs.Qxb6601733aMods

def stepI (s : Nat) (c : Int) : Int := match s with
  | 0 => if c = 45 then 1 else if c = 48 then 2 else if 48 ≤ c ∧ c ≤ 57 then 3 else -1
  | 1 => if c = 48 then 2 else if 48 ≤ c ∧ c ≤ 57 then 3 else -1
  | 2 => if c = 46 then 4 else if c = 101 ∨ c = 69 then 6 else -1
  | 3 => if 48 ≤ c ∧ c ≤ 57 then 3 else if c = 46 then 4 else if c = 101 ∨ c = 69 then 6 else -1
  | 4 => if 48 ≤ c ∧ c ≤ 57 then 5 else -1
  | 5 => if 48 ≤ c ∧ c ≤ 57 then 5 else if c = 101 ∨ c = 69 then 6 else -1
  | 6 => if c = 43 ∨ c = 45 then 7 else if 48 ≤ c ∧ c ≤ 57 then 8 else -1
  | 7 => if 48 ≤ c ∧ c ≤ 57 then 8 else -1
  | 8 => if 48 ≤ c ∧ c ≤ 57 then 8 else -1
  | _ => -1

def fin (s : Nat) : Option Nat := if s = 2 ∨ s = 3 ∨ s = 5 ∨ s = 8 then some 0 else none
def aut : Nat → List Int → Option Nat
  | s, [] => fin s
  | s, c :: l => if stepI s c < 0 then fin s else up 1 (aut (stepI s c).toNat l)

theorem stepI_range (s : Nat) (c : Int) : stepI s c = -1 ∨ (0 ≤ stepI s c ∧ stepI s c ≤ 8) := by
  unfold stepI
  split <;> (repeat' split) <;> omega

theorem aut_go {s t : Nat} {c : Int} (l : List Int) (h : stepI s c = t) : aut s (c :: l) = up 1 (aut t l) := by
  rw [aut, h, if_neg (by omega), Int.toNat_natCast]
theorem aut_stop {s : Nat} {c : Int} (l : List Int) (h : stepI s c = -1) : aut s (c :: l) = fin s := by
  rw [aut, h, if_pos (by omega)]

theorem dcnt_yes {c : Int} (l : List Int) (h : 48 ≤ c ∧ c ≤ 57) : dcnt (c :: l) = dcnt l + 1 := by
  rw [dcnt, if_pos (show isD c = true from decide_eq_true h)]
theorem dcnt_no {c : Int} (l : List Int) (h : ¬ (48 ≤ c ∧ c ≤ 57)) : dcnt (c :: l) = 0 := by
  rw [dcnt, if_neg (by rw [isD, decide_eq_false h]; exact Bool.false_ne_true)]

theorem aut8 : ∀ l, aut 8 l = some (dcnt l)
  | [] => rfl
  | c :: l => by
    by_cases h : 48 ≤ c ∧ c ≤ 57
    · rw [aut_go (t := 8) l (by simp [stepI, h]), aut8 l, dcnt_yes l h]; simp [up]; omega
    · rw [aut_stop l (by simp only [stepI, if_neg h]), dcnt_no l h]; rfl

theorem aut7 (l : List Int) : aut 7 l = if dcnt l = 0 then none else some (dcnt l) := by
  cases l with
  | nil => rfl
  | cons c l =>
    by_cases h : 48 ≤ c ∧ c ≤ 57
    · rw [aut_go (t := 8) l (by simp [stepI, h]), aut8 l, dcnt_yes l h, if_neg (by omega)]; simp [up]; omega
    · rw [aut_stop l (by simp only [stepI, if_neg h]), dcnt_no l h]; rfl

theorem aut6 (l : List Int) : aut 6 l = if hd l = 43 ∨ hd l = 45 then up 1 (aut 7 (l.drop 1)) else if dcnt l = 0 then none else some (dcnt l) := by
  cases l with
  | nil => rfl
  | cons c l =>
    show _ = if c = 43 ∨ c = 45 then up 1 (aut 7 l) else _
    by_cases hs : c = 43 ∨ c = 45
    · rw [if_pos hs, aut_go (t := 7) l (by simp [stepI, hs])]
    · rw [if_neg hs]
      by_cases h : 48 ≤ c ∧ c ≤ 57
      · rw [aut_go (t := 8) l (by simp only [stepI, if_neg hs, if_pos h]; rfl), aut8 l, dcnt_yes l h, if_neg (by omega)]; simp [up]; omega
      · rw [aut_stop l (by simp only [stepI, if_neg hs, if_neg h]), dcnt_no l h]; rfl

theorem expo_aut (l : List Int) : expo l = if hd l = 101 ∨ hd l = 69 then up 1 (aut 6 (l.drop 1)) else some 0 := by
  unfold expo
  by_cases h : hd l = 101 ∨ hd l = 69
  · rw [if_pos h, if_pos h, aut6, List.drop_drop, aut7]
    by_cases h2 : hd (l.drop 1) = 43 ∨ hd (l.drop 1) = 45
    · rw [if_pos h2, if_pos h2]
      show (if dcnt (l.drop 2) = 0 then _ else _) = up 1 (up 1 (if dcnt (l.drop 2) = 0 then _ else _))
      by_cases h3 : dcnt (l.drop 2) = 0
      · rw [if_pos h3, if_pos h3]; rfl
      · rw [if_neg h3, if_neg h3]; simp [up]; omega
    · rw [if_neg h2, if_neg h2]
      by_cases h3 : dcnt (l.drop 1) = 0
      · rw [if_pos h3, if_pos h3]; rfl
      · rw [if_neg h3, if_neg h3]; rfl
  · rw [if_neg h, if_neg h]

/-- no digit here: state 5 goes on as the exponent does -/
theorem aut5_end (l : List Int) (hd0 : dcnt l = 0) : aut 5 l = expo l := by
  rw [expo_aut]
  cases l with
  | nil => rfl
  | cons c l =>
    have h : ¬ (48 ≤ c ∧ c ≤ 57) := fun h => by rw [dcnt_yes l h] at hd0; omega
    show _ = if c = 101 ∨ c = 69 then up 1 (aut 6 l) else some 0
    by_cases he : c = 101 ∨ c = 69
    · rw [if_pos he, aut_go (t := 6) l (by simp only [stepI, if_neg h, if_pos he]; rfl)]
    · rw [if_neg he, aut_stop l (by simp only [stepI, if_neg h, if_neg he])]; rfl

theorem up_zero (o : Option Nat) : up 0 o = o := by cases o <;> simp [up]

theorem aut5 : ∀ l, aut 5 l = up (dcnt l) (expo (l.drop (dcnt l)))
  | [] => rfl
  | c :: l => by
    by_cases h : 48 ≤ c ∧ c ≤ 57
    · rw [aut_go (t := 5) l (by simp [stepI, h]), aut5 l, dcnt_yes l h, up_up, List.drop_succ_cons, Nat.add_comm]
    · rw [dcnt_no l h, aut5_end _ (dcnt_no l h), up_zero]; rfl

theorem aut4 (l : List Int) : aut 4 l = if dcnt l = 0 then none else up (dcnt l) (expo (l.drop (dcnt l))) := by
  cases l with
  | nil => rfl
  | cons c l =>
    by_cases h : 48 ≤ c ∧ c ≤ 57
    · rw [aut_go (t := 5) l (by simp [stepI, h]), aut5 l, dcnt_yes l h, if_neg (by omega), up_up, List.drop_succ_cons, Nat.add_comm]
    · rw [aut_stop l (by simp only [stepI, if_neg h]), dcnt_no l h]; rfl

theorem frac_aut (l : List Int) : frac l = if hd l = 46 then up 1 (aut 4 (l.drop 1)) else expo l := by
  unfold frac
  by_cases h : hd l = 46
  · rw [if_pos h, if_pos h, aut4]
    by_cases h3 : dcnt (l.drop 1) = 0
    · rw [if_pos h3, if_pos h3]; rfl
    · rw [if_neg h3, if_neg h3, up_up, List.drop_drop]
  · rw [if_neg h, if_neg h]

theorem aut2 (l : List Int) : aut 2 l = frac l := by
  rw [frac_aut, expo_aut]
  cases l with
  | nil => rfl
  | cons c l =>
    show _ = if c = 46 then up 1 (aut 4 l) else if c = 101 ∨ c = 69 then up 1 (aut 6 l) else some 0
    by_cases hp : c = 46
    · rw [if_pos hp, aut_go (t := 4) l (by simp only [stepI, if_pos hp]; rfl)]
    · rw [if_neg hp]
      by_cases he : c = 101 ∨ c = 69
      · rw [if_pos he, aut_go (t := 6) l (by simp only [stepI, if_neg hp, if_pos he]; rfl)]
      · rw [if_neg he, aut_stop l (by simp only [stepI, if_neg hp, if_neg he])]; rfl

theorem aut3_end (l : List Int) (hd0 : dcnt l = 0) : aut 3 l = frac l := by
  rw [frac_aut, expo_aut]
  cases l with
  | nil => rfl
  | cons c l =>
    have h : ¬ (48 ≤ c ∧ c ≤ 57) := fun h => by rw [dcnt_yes l h] at hd0; omega
    show _ = if c = 46 then up 1 (aut 4 l) else if c = 101 ∨ c = 69 then up 1 (aut 6 l) else some 0
    by_cases hp : c = 46
    · rw [if_pos hp, aut_go (t := 4) l (by simp only [stepI, if_neg h, if_pos hp]; rfl)]
    · rw [if_neg hp]
      by_cases he : c = 101 ∨ c = 69
      · rw [if_pos he, aut_go (t := 6) l (by simp only [stepI, if_neg h, if_neg hp, if_pos he]; rfl)]
      · rw [if_neg he, aut_stop l (by simp only [stepI, if_neg h, if_neg hp, if_neg he])]; rfl

theorem aut3 : ∀ l, aut 3 l = up (dcnt l) (frac (l.drop (dcnt l)))
  | [] => rfl
  | c :: l => by
    by_cases h : 48 ≤ c ∧ c ≤ 57
    · rw [aut_go (t := 3) l (by simp [stepI, h]), aut3 l, dcnt_yes l h, up_up, List.drop_succ_cons, Nat.add_comm]
    · rw [dcnt_no l h, aut3_end _ (dcnt_no l h), up_zero]; rfl

theorem aut1 (l : List Int) : aut 1 l = intg l := by
  cases l with
  | nil => rfl
  | cons c l =>
    show _ = if c = 48 then up 1 (frac l) else if 49 ≤ c ∧ c ≤ 57 then up (dcnt (c :: l)) (frac ((c :: l).drop (dcnt (c :: l)))) else none
    by_cases h0 : c = 48
    · rw [if_pos h0, aut_go (t := 2) l (by simp only [stepI, if_pos h0]; rfl), aut2]
    · rw [if_neg h0]
      by_cases h : 49 ≤ c ∧ c ≤ 57
      · have h' : 48 ≤ c ∧ c ≤ 57 := by omega
        rw [if_pos h, aut_go (t := 3) l (by simp only [stepI, if_neg h0, if_pos h']; rfl), aut3, dcnt_yes l h', up_up, List.drop_succ_cons, Nat.add_comm]
      · rw [if_neg h, aut_stop l (by simp only [stepI, if_neg h0, if_neg (show ¬ (48 ≤ c ∧ c ≤ 57) by omega)])]; rfl

theorem aut0 (l : List Int) : aut 0 l = numE l := by
  unfold numE
  cases l with
  | nil => rfl
  | cons c l =>
    show _ = if c = 45 then up 1 (intg l) else intg (c :: l)
    by_cases hm : c = 45
    · rw [if_pos hm, aut_go (t := 1) l (by simp only [stepI, if_pos hm]; rfl), aut1]
    · rw [if_neg hm, ← aut1]
      have e : stepI 0 c = stepI 1 c := by simp only [stepI, if_neg hm]
      rw [aut, aut, e]
      rfl
end Go.Proofs.Qxb6601733aMods
