import Derived.Laws.BytesArg
/- The plain mathematics of the seat: a name's key. -/
namespace Go.Proofs.Qxb6602006aMods

/-- no digit -/
def nd (c : UInt8) : Bool := decide ((c.toNat : Int) < 48 ∨ 57 < (c.toNat : Int))
def keep (l : List UInt8) : List UInt8 := l.filter nd
def keyL (l : List UInt8) : List UInt8 := (keep l).reverse
def ints (l : List UInt8) : List Int := l.map fun c => (c.toNat : Int)
def str (l : List UInt8) : ByteArray := ⟨l.toArray⟩

theorem str_ints (l : List UInt8) : strOfNums (ints l) = str l := by
  unfold strOfNums ints str
  congr 2
  rw [List.map_map]
  induction l with
  | nil => rfl
  | cons c l ih => simpa using ih
theorem str_data (s : ByteArray) : str s.data.toList = s := rfl
theorem data_str (l : List UInt8) : (str l).data.toList = l := rfl
theorem str_size (l : List UInt8) : (str l).size = l.length := by simp [str, ByteArray.size]
theorem str_append (a b : List UInt8) : str a ++ str b = str (a ++ b) := by
  apply ByteArray.ext
  simp [str]

theorem keyL_append (a b : List UInt8) : keyL (a ++ b) = keyL b ++ keyL a := by
  simp [keyL, keep, List.filter_append]

theorem drop_at (s : ByteArray) (k : Nat) (h : k < s.size) : s.data.toList.drop k = s[k] :: s.data.toList.drop (k + 1) := by
  rw [List.drop_eq_getElem_cons (by simpa using h)]
  rfl
theorem take_at (s : ByteArray) (k : Nat) (h : k < s.size) : s.data.toList.take (k + 1) = s.data.toList.take k ++ [s[k]] := by
  rw [List.take_succ_eq_append_getElem (by simpa using h)]; rfl

theorem ints_append (a b : List UInt8) : ints (a ++ b) = ints a ++ ints b := by simp [ints]
theorem ints_length (a : List UInt8) : (ints a).length = a.length := by simp [ints]

theorem key_yes (s : ByteArray) (k : Nat) (h : k < s.size) (hc : nd s[k] = true) : ints (keyL (s.data.toList.drop k)) = ints (keyL (s.data.toList.drop (k + 1))) ++ [(s[k].toNat : Int)] := by
  rw [drop_at s k h, keyL, keep, List.filter_cons, if_pos hc, List.reverse_cons, ints_append]; rfl
theorem key_no (s : ByteArray) (k : Nat) (h : k < s.size) (hc : nd s[k] = false) : ints (keyL (s.data.toList.drop k)) = ints (keyL (s.data.toList.drop (k + 1))) := by
  rw [drop_at s k h, keyL, keep, List.filter_cons, hc]; rfl
theorem keep_yes (s : ByteArray) (k : Nat) (h : k < s.size) (hc : nd s[k] = true) : ints (keep (s.data.toList.take (k + 1))) = ints (keep (s.data.toList.take k)) ++ [(s[k].toNat : Int)] := by
  rw [take_at s k h, keep, List.filter_append, ints_append]
  simp [keep, hc, ints]
theorem keep_no (s : ByteArray) (k : Nat) (h : k < s.size) (hc : nd s[k] = false) : ints (keep (s.data.toList.take (k + 1))) = ints (keep (s.data.toList.take k)) := by
  rw [take_at s k h, keep, List.filter_append, ints_append]
  simp [keep, hc, ints]
theorem key_end (s : ByteArray) : ints (keyL (s.data.toList.drop s.size)) = [] := by
  rw [List.drop_of_length_le (by simp)]; rfl
end Go.Proofs.Qxb6602006aMods
