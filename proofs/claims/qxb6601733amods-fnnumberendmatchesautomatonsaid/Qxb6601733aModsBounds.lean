import Derived.Test.Qxb6601733aModsPlain
namespace Go.Proofs.Qxb6601733aMods

theorem len_of_hd (l : List Int) (c : Int) (h : hd l = c) (hc : c ≠ 0) : 1 ≤ l.length := by
  cases l with
  | nil => exact absurd h.symm hc
  | cons => simp

theorem up_some {k : Nat} {o : Option Nat} {q : Nat} (h : up k o = some q) : ∃ r, o = some r ∧ q = k + r := by
  cases o with
  | none => simp [up] at h
  | some r => exact ⟨r, rfl, by simp [up] at h; omega⟩

theorem expo_le (l : List Int) (q : Nat) (h : expo l = some q) : q ≤ l.length := by
  unfold expo at h
  split at h
  · rename_i h1
    have h1 : 1 ≤ l.length := by rcases h1 with h1 | h1 <;> exact len_of_hd l _ h1 (by decide)
    split at h
    · rename_i h2
      have h2 : 1 ≤ (l.drop 1).length := by rcases h2 with h2 | h2 <;> exact len_of_hd _ _ h2 (by decide)
      rw [List.length_drop] at h2
      split at h
      · cases h
      · have := dcnt_le (l.drop 2)
        rw [List.length_drop] at this
        have e := Option.some.inj h
        omega
    · split at h
      · cases h
      · have := dcnt_le (l.drop 1)
        rw [List.length_drop] at this
        have e := Option.some.inj h
        omega
  · have e := Option.some.inj h
    omega

theorem frac_le (l : List Int) (q : Nat) (h : frac l = some q) : q ≤ l.length := by
  unfold frac at h
  split at h
  · rename_i h1
    have h1 := len_of_hd l _ h1 (by decide)
    split at h
    · cases h
    · obtain ⟨r, hr, e⟩ := up_some h
      have h2 := expo_le _ _ hr
      have := dcnt_le (l.drop 1)
      rw [List.length_drop] at h2 this
      omega
  · exact expo_le _ _ h

theorem dcnt_pos (l : List Int) (h : 49 ≤ hd l ∧ hd l ≤ 57) : 0 < dcnt l := by
  cases l with
  | nil => simp [hd] at h
  | cons c l =>
    have hc : isD c = true := decide_eq_true (by simp [hd] at h; omega)
    rw [dcnt, if_pos hc]; omega

theorem intg_le (l : List Int) (q : Nat) (h : intg l = some q) : 0 < q ∧ q ≤ l.length := by
  unfold intg at h
  split at h
  · rename_i h1
    have h1 := len_of_hd l _ h1 (by decide)
    obtain ⟨r, hr, e⟩ := up_some h
    have h2 := frac_le _ _ hr
    rw [List.length_drop] at h2
    omega
  · split at h
    · rename_i h1
      have hp := dcnt_pos l h1
      have hl := dcnt_le l
      obtain ⟨r, hr, e⟩ := up_some h
      have h2 := frac_le _ _ hr
      rw [List.length_drop] at h2
      omega
    · cases h

theorem numE_le (l : List Int) (q : Nat) (h : numE l = some q) : 0 < q ∧ q ≤ l.length := by
  unfold numE at h
  split at h
  · rename_i h1
    have h1 := len_of_hd l _ h1 (by decide)
    obtain ⟨r, hr, e⟩ := up_some h
    have h2 := intg_le _ _ hr
    rw [List.length_drop] at h2
    omega
  · exact intg_le _ _ h
end Go.Proofs.Qxb6601733aMods
