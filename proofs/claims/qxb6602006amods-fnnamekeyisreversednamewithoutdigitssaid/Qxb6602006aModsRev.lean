import Derived.Test.Qxb6602006aModsPlain
/- The reversal in place, without Go. -/
namespace Go.Proofs.Qxb6602006aMods

/-- behind 'a' exchanges -/
def Mid (acc ys : List Int) (m a : Nat) : Prop := ∀ t, t < m → ys.getD t 0 = if t < a ∨ m - a ≤ t then acc.getD (m - 1 - t) 0 else acc.getD t 0

theorem getD_set (xs : List Int) (k j : Nat) (d : Int) (hk : k < xs.length) : (xs.set k d).getD j 0 = if j = k then d else xs.getD j 0 := by
  simp only [List.getD_eq_getElem?_getD, List.getElem?_set]
  by_cases e : k = j
  · subst e; simp [hk]
  · rw [if_neg e, if_neg (Ne.symm e)]

theorem mid_start (acc : List Int) (m : Nat) : Mid acc acc m 0 := by
  intro t ht
  rw [if_neg (by omega)]

theorem mid_step {acc ys : List Int} {m a j : Nat} (hy : ys.length = m) (hj : j + a + 1 = m) (haj : a < j) (h : Mid acc ys m a) :
    Mid acc ((ys.set a (ys.getD j 0)).set j (ys.getD a 0)) m (a + 1) := by
  intro t ht
  rw [getD_set _ j t _ (by simp; omega), getD_set _ a t _ (by omega)]
  by_cases e1 : t = j
  · rw [if_pos e1, h a (by omega), if_neg (by omega), if_pos (by omega)]
    congr 1; omega
  · rw [if_neg e1]
    by_cases e2 : t = a
    · rw [if_pos e2, h j (by omega), if_neg (by omega), if_pos (by omega)]
      congr 1; omega
    · rw [if_neg e2, h t ht]
      by_cases e3 : t < a ∨ m - a ≤ t
      · rw [if_pos e3, if_pos (by omega)]
      · rw [if_neg e3, if_neg (by omega)]

theorem mid_end {acc ys : List Int} {m a : Nat} (ha : acc.length = m) (hy : ys.length = m) (h2 : 2 * a ≤ m) (hm : m ≤ 2 * a + 1) (h : Mid acc ys m a) : ys = acc.reverse := by
  apply List.ext_getElem
  · simp; omega
  · intro t h1 h3
    have hh := h t (by omega)
    have e1 : ys.getD t 0 = ys[t] := by simp [List.getD_eq_getElem?_getD, h1]
    have e2 : acc.reverse[t] = acc.getD (m - 1 - t) 0 := by
      rw [List.getElem_reverse]
      have : m - 1 - t < acc.length := by omega
      simp only [List.getD_eq_getElem?_getD, List.getElem?_eq_getElem this, Option.getD_some]
      congr 1; omega
    rw [e2, ← e1, hh]
    by_cases e3 : t < a ∨ m - a ≤ t
    · rw [if_pos e3]
    · rw [if_neg e3]
      congr 1; omega

theorem ints_reverse (l : List UInt8) : (ints l).reverse = ints l.reverse := by simp [ints]
end Go.Proofs.Qxb6602006aMods
