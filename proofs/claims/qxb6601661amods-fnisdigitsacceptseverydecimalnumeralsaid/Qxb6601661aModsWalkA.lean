import Derived.Test.Qxb6601661aModsRows
import Derived.WalkKit
import Derived.WalkSpells
import Derived.WalkLawsBesides
import Derived.Below
import Derived.OwnWalk
import Derived.OpenShut
import Derived.Lib.ConvBytes
import Derived.Laws.BytesArg
namespace Go.Proofs.Qxb6601661aMods
open Go.RowKit

/-- a byte that is '0'..'9' -/
def dig1 (c : Int) : Bool := decide (48 ≤ c ∧ c ≤ 57)
def allB (l : List UInt8) : Bool := l.all fun c => dig1 (c.toNat : Int)
def digB (l : List UInt8) : Bool := allB l && !l.isEmpty

theorem ret_bool {a b : Bool} (h : a = b) : Ending.returned (.bool a) = .returned (.bool b) := by rw [h]
theorem take_snoc (l : List UInt8) (k : Nat) (h : k < l.length) : l.take (k + 1) = l.take k ++ [l.getD k 0] := by
  rw [List.take_succ_eq_append_getElem h]; simp [List.getD_eq_getElem?_getD, h]
theorem allB_snoc (l : List UInt8) (k : Nat) (h : k < l.length) (h1 : allB (l.take k) = true) (h2 : dig1 ((l.getD k 0).toNat : Int) = true) : allB (l.take (k + 1)) = true := by
  rw [take_snoc l k h]; unfold allB at *; rw [List.all_append, h1]; simpa using h2
theorem allB_not (l : List UInt8) (k : Nat) (h : k < l.length) (h2 : dig1 ((l.getD k 0).toNat : Int) = false) : digB l = false := by
  have : allB l = false := by
    unfold allB
    rw [List.all_eq_false]
    have e : l.getD k 0 = l[k] := by simp [List.getD_eq_getElem?_getD, h]
    rw [e] at h2
    exact ⟨l[k], List.getElem_mem h, by simp [h2]⟩
  simp [digB, this]

theorem end_law (s : ByteArray) (k : Nat) (hk : s.size ≤ k) (h : allB (s.data.toList.take k) = true) : (!s.toList.isEmpty) = digB s.data.toList := by
  rw [List.take_of_length_le (by simpa using hk)] at h
  rw [ByteArray.toList_eq, digB, h, Bool.true_and]

theorem bytesWorld_below (w : World) (e : TypeId) (s : ByteArray) : Below w.heap.size w (Lib.bytesWorld w e s) :=
  ⟨by simp [Lib.bytesWorld, World.freeze, World.alloc, World.drew, -World.alloc_eq, -World.drew_eq], by simp [Lib.bytesWorld, World.freeze, World.alloc, World.drew, -World.alloc_eq, -World.drew_eq], by simp [Lib.bytesWorld, World.freeze, World.alloc, World.drew, -World.alloc_eq, -World.drew_eq], by rw [Lib.bytesWorld_size]; omega, fun k hk => Lib.bytesWorld_at_old w e s k hk⟩

set_option maxHeartbeats 400000 in
theorem isDigits_any (s : ByteArray) (w : World) (hs : s.size ≤ 1024) :
    Calls Trym.prog 16 #[.string s] w fun e w' => e = .returned (.bool (digB s.data.toList)) ∧ Below w.heap.size w w' := by
  have hconv := Lib.run_convert_string_bytes (P := Trym.prog) w 9 27 5 s Trym.underlying9 Trym.underlying27 Trym.underlying5
  have hcell := Lib.bytesWorld_cell w 5 s
  have hbel := bytesWorld_below w 5 s
  have hll0 : s.data.toList.length = s.size := by simp
  have hll : Hid (s.data.toList.length = s.size) := hll0
  clear hll0
  generalize Lib.bytesWorld w 5 s = w1 at *
  generalize grownCap w s.size 0 5 = cap at *
  go_enter Trym.func16, Trym.ntmps16
  go_wp2
  go_loop [8] (fun i => ∃ k : Nat, k ≤ s.size ∧ i = .int .i64 k ∧ Hid (allB (s.data.toList.take k) = true)) (fun i => s.size - (intOf i).toNat)
  case atStart => exact ⟨0, Nat.zero_le _, rfl, rfl⟩
  case round =>
    obtain ⟨k, hk, rfl, hl⟩ := hrel
    by_cases hlt : k < s.size
    · have hck := hcell k hlt
      have hx1 : Hid (dig1 ((s.data.toList.getD k 0).toNat : Int) = true → allB (s.data.toList.take (k + 1)) = true) := allB_snoc _ k (by rw [hll.out]; exact hlt) hl.out
      have hx2 : Hid (dig1 ((s.data.toList.getD k 0).toNat : Int) = false → digB s.data.toList = false) := allB_not _ k (by rw [hll.out]; exact hlt)
      clear hcell hconv
      generalize ((s.data.toList.getD k 0).toNat : Int) = z at *
      by_cases h1 : z < 48
      · go_wp2
        go_ret
        exact ⟨ret_bool (hx2.out (decide_eq_false (by omega))).symm, hbel⟩
      · by_cases h2 : 57 < z
        · go_wp2
          go_ret
          exact ⟨ret_bool (hx2.out (decide_eq_false (by omega))).symm, hbel⟩
        · go_wp2
          go_round
          case rel => exact ⟨k + 1, by omega, by go_num, hx1.out (decide_eq_true (by omega))⟩
          case measure => simp [intOf]; omega
    · go_wp2
      go_ret
      exact ⟨ret_bool (end_law s k (by omega) hl.out), hbel⟩
end Go.Proofs.Qxb6601661aMods
