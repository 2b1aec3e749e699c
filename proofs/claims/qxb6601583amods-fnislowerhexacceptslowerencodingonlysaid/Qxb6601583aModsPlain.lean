import Derived.Test.Qxb6601583aModsWalkD
namespace Go.Proofs.Qxb6601583aMods
open Go.RowKit

def dLow : ByteArray := { data := #[48, 49, 50, 51, 52, 53, 54, 55, 56, 57, 97, 98, 99, 100, 101, 102] }
def dUp : ByteArray := { data := #[48, 49, 50, 51, 52, 53, 54, 55, 56, 57, 65, 66, 67, 68, 69, 70] }

theorem dg_range (D : ByteArray) (i : Int) : 0 ≤ dg D i ∧ dg D i < 256 := by
  unfold dg
  have := UInt8.toNat_lt (D.data.toList.getD i.toNat 0)
  omega

theorem low_fin : ∀ m : Fin 16, hexB (dg dLow (m.val : Int)) = true := by decide +kernel
theorem up_fin : ∀ m : Fin 16, hexB (dg dUp (m.val : Int)) = decide ((m.val : Int) ≤ 9) := by decide +kernel
theorem low_at (i : Int) (h0 : 0 ≤ i) (h1 : i < 16) : hexB (dg dLow i) = true := by
  have := low_fin ⟨i.toNat, by omega⟩
  have e : ((i.toNat : Nat) : Int) = i := by omega
  rw [← e]; exact this
theorem up_at (i : Int) (h0 : 0 ≤ i) (h1 : i < 16) : hexB (dg dUp i) = decide (i ≤ 9) := by
  have := up_fin ⟨i.toNat, by omega⟩
  have e : ((i.toNat : Nat) : Int) = i := by omega
  rw [← e]; exact this

theorem lowB_enc (D : ByteArray) (zs : List Int) : lowB (strOfNums (encL D zs)).data.toList = true ↔ ∀ j, j < 2 * zs.length → hexB (encAt D zs j) = true := by
  have e : ∀ j, max (encAt D zs j) 0 % 256 = encAt D zs j := by
    intro j
    have : 0 ≤ encAt D zs j ∧ encAt D zs j < 256 := by unfold encAt; split <;> exact dg_range _ _
    omega
  simp [lowB, strOfNums_data, encL, List.all_eq_true, e]

theorem low_law (zs : List Int) (h : ∀ k, 0 ≤ zs.getD k 0 ∧ zs.getD k 0 ≤ 255) : lowB (strOfNums (encL dLow zs)).data.toList = true := by
  rw [lowB_enc]
  intro j _
  have := h (j / 2)
  unfold encAt
  split
  · exact low_at _ (by omega) (by omega)
  · exact low_at _ (by omega) (by omega)

theorem up_law (zs : List Int) (h : ∀ k, 0 ≤ zs.getD k 0 ∧ zs.getD k 0 ≤ 255) : lowB (strOfNums (encL dUp zs)).data.toList = nlB zs := by
  rw [Bool.eq_iff_iff, lowB_enc]
  unfold nlB
  rw [List.all_eq_true]
  have hu1 : ∀ k, hexB (dg dUp (zs.getD k 0 / 16)) = decide (zs.getD k 0 / 16 ≤ 9) := fun k => by
    have := h k
    exact up_at _ (by omega) (by omega)
  have hu2 : ∀ k, hexB (dg dUp (zs.getD k 0 % 16)) = decide (zs.getD k 0 % 16 ≤ 9) := fun k => by
    have := h k
    exact up_at _ (by omega) (by omega)
  constructor
  · intro hj z hz
    obtain ⟨k, hk, rfl⟩ := List.getElem_of_mem hz
    have e : zs.getD k 0 = zs[k] := by simp [List.getD_eq_getElem?_getD, hk]
    have h1 := hj (2 * k) (by omega)
    have h2 := hj (2 * k + 1) (by omega)
    have a1 : (2 * k) % 2 = 0 := by omega
    have a2 : (2 * k) / 2 = k := by omega
    have b1 : (2 * k + 1) % 2 = 1 := by omega
    have b2 : (2 * k + 1) / 2 = k := by omega
    unfold encAt at h1 h2
    rw [a2, if_pos a1, hu1, e] at h1
    rw [b2, if_neg (by omega), hu2, e] at h2
    unfold nib
    rw [h1, h2]; rfl
  · intro hz j hj
    have hk : j / 2 < zs.length := by omega
    have e : zs.getD (j / 2) 0 = zs[j / 2] := by simp [List.getD_eq_getElem?_getD, hk]
    have hn := hz _ (List.getElem_mem hk)
    unfold nib at hn
    rw [← e, Bool.and_eq_true] at hn
    unfold encAt
    split
    · rw [hu1]; exact hn.1
    · rw [hu2]; exact hn.2
end Go.Proofs.Qxb6601583aMods
