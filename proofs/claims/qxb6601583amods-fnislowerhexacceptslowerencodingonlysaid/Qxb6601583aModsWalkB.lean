import Derived.Test.Qxb6601583aModsWalkA
import Derived.OwnWalk
import Derived.OpenShut
namespace Go.Proofs.Qxb6601583aMods
open Go.RowKit

/-- what a reader is told of a slice of bytes: where it has an element its cells lie in one row, and they hold the numbers 'zs' -/
def RowAt (w : World) (a : Option Addr) (n : Nat) (zs : List Int) : Prop :=
  zs.length = n ∧ (0 < n → ∃ b off, a = some ⟨b, off, none⟩ ∧ ∀ k, k < n → w.cell? ⟨b, off + k, none⟩ = some (.int .u8 (zs.getD k 0))) ∧ ∀ k, 0 ≤ zs.getD k 0 ∧ zs.getD k 0 ≤ 255

def nib (z : Int) : Bool := decide (z / 16 ≤ 9) && decide (z % 16 ≤ 9)
def nlB (zs : List Int) : Bool := zs.all nib

theorem bits_and15_fin : ∀ m : Fin 256, bits BinOp.and .u8 (m.val : Int) 15 = (m.val : Int) % 16 := by decide +kernel
theorem bits_and15 (z : Int) (h0 : 0 ≤ z) (h1 : z ≤ 255) : bits BinOp.and .u8 z 15 = z % 16 := by
  have := bits_and15_fin ⟨z.toNat, by omega⟩
  have e : ((z.toNat : Nat) : Int) = z := by omega
  simpa [e] using this

theorem take_snocI (zs : List Int) (k : Nat) (h : k < zs.length) : zs.take (k + 1) = zs.take k ++ [zs.getD k 0] := by
  rw [List.take_succ_eq_append_getElem h]; simp [List.getD_eq_getElem?_getD, h]
theorem nlB_snoc (zs : List Int) (k : Nat) (h : k < zs.length) (h1 : nlB (zs.take k) = true) (h2 : nib (zs.getD k 0) = true) : nlB (zs.take (k + 1)) = true := by
  rw [take_snocI zs k h]; unfold nlB at *; rw [List.all_append, h1]; simpa using h2
theorem nlB_not (zs : List Int) (k : Nat) (h : k < zs.length) (h2 : nib (zs.getD k 0) = false) : nlB zs = false := by
  unfold nlB
  rw [List.all_eq_false]
  refine ⟨zs[k], List.getElem_mem h, ?_⟩
  have e : zs.getD k 0 = zs[k] := by simp [List.getD_eq_getElem?_getD, h]
  rw [e] at h2; simp [h2]

set_option maxHeartbeats 400000 in
theorem noLetterNibble_any (a : Option Addr) (n c : Nat) (zs : List Int) (w : World) (hn : n ≤ 1048576) (hr : RowAt w a n zs) :
    Calls Trym.prog 10 #[.slice a n c] w fun e w' => e = .returned (.bool (nlB zs)) ∧ w' = w := by
  obtain ⟨hlen0, hc, hb⟩ := hr
  have hlen : Hid (zs.length = n) := hlen0
  clear hlen0
  go_enter Trym.func10, Trym.ntmps10
  go_wp2
  go_loop [3] (fun i => ∃ k : Nat, k ≤ n ∧ i = .int .i64 k ∧ Hid (nlB (zs.take k) = true)) (fun i => n - (intOf i).toNat)
  case atStart => exact ⟨0, Nat.zero_le _, rfl, rfl⟩
  case round =>
    obtain ⟨k, hk, rfl, hl⟩ := hrel
    by_cases hlt : k < n
    · obtain ⟨b, off, rfl, hcc⟩ := hc (by omega)
      have hck := hcc k hlt
      obtain ⟨hb1, hb2⟩ := hb k
      have hx1 : Hid (nib (zs.getD k 0) = true → nlB (zs.take (k + 1)) = true) := nlB_snoc zs k (by rw [hlen.out]; exact hlt) hl.out
      have hx2 : Hid (nib (zs.getD k 0) = false → nlB zs = false) := nlB_not zs k (by rw [hlen.out]; exact hlt)
      clear hcc hc hb
      generalize zs.getD k 0 = z at *
      have hand := bits_and15 z hb1 hb2
      by_cases h1 : z / 16 ≤ 9
      · by_cases h2 : z % 16 ≤ 9
        · go_wp2
          go_round
          case rel => exact ⟨k + 1, by omega, by go_num, hx1.out (by simp [nib, h1, h2])⟩
          case measure => simp [intOf]; omega
        · go_wp2
          go_ret
          exact ⟨ret_bool (hx2.out (by simp [nib]; omega)).symm, rfl⟩
      · go_wp2
        go_ret
        exact ⟨ret_bool (hx2.out (by simp [nib]; omega)).symm, rfl⟩
    · go_wp2
      go_ret
      exact ⟨ret_bool (by rw [← hl.out, List.take_of_length_le (by rw [hlen.out]; omega)]), rfl⟩
end Go.Proofs.Qxb6601583aMods
