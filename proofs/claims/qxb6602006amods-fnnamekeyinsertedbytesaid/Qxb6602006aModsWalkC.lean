import Derived.Test.Qxb6602006aModsWalkA
import Derived.Deep.DeepCutAuto
import Derived.Deep.QuietTactic
import Derived.BigQuiet
namespace Go.Proofs.Qxb6602006aMods
open Go.RowKit

/-- the worlds in which nothing that was there has turned -/
def Cls (w w' : World) : Prop := Below w.heap.size w w'

theorem cls_call {P : Program} {f : FuncId} {args : Array Value} {w W : World} {v : Value} (hW : Cls w W)
    (h : Calls P f args W fun e w' => e = .returned v ∧ Below W.heap.size W w') : Calls P f args W fun e w'' => e = .returned v ∧ Cls w w'' :=
  h.mono fun _ _ ⟨he, hb⟩ => ⟨he, Below.trans hW (hb.mono hW.size)⟩

/-- a region that draws its order, walked once in the order of the text, its callees making memory of their own -/
theorem wp_region_cls {P : Program} {id : Nat} {Q : Exit → Act → World → Prop} {a : Act} {w0 w : World} {l : List Oper} (hm : P.follows .mixedOrders = true) (hB : Region.lexB .any l.toArray = true) (hC : Cls w0 w)
    (h : wpQuiet P l.toArray (Cls w0) (fun a' => ∀ w', Cls w0 w' → Q .normal a' w') l a) : (Code.region id l.toArray true).wp P Q a w :=
  wp_region_quiet (C := Cls w0) hm hB (Below.drew hC) (by simpa using h)

theorem ins_data (s one : ByteArray) (p : Nat) : (s.extract 0 p ++ one ++ s.extract p s.size).data.toList = s.data.toList.take p ++ one.data.toList ++ s.data.toList.drop p := by
  rw [ByteArray.data_append, ByteArray.data_append, Array.toList_append, Array.toList_append, ByteArray.data_extract, ByteArray.data_extract, Array.toList_extract, Array.toList_extract]
  simp [List.extract]
  exact List.take_of_length_le (by simp)

theorem one_string (d : Int) (W : World) : (convert 26 9 (.slice (some ⟨W.heap.size, 0, none⟩) 1 1)).run Trym.prog (W.alloc (.cells #[.int .u8 d] 5)) = .ok (.string (strOfNums [d])) (W.alloc (.cells #[.int .u8 d] 5)) := by
  refine run_convert_bytes_arg (P := Trym.prog) _ 26 5 Trym.underlying26 Trym.underlying5 W.heap.size 0 1 1 [d] rfl ?_ 9 Trym.underlying9
  intro i hi
  obtain rfl : i = 0 := by omega
  have := cell_one_new W (.int .u8 d) 5 0 (.int .u8 d) rfl
  exact this

theorem key_one_digit (d : Int) (h1 : 48 ≤ d) (h2 : d ≤ 57) : keyL (strOfNums [d]).data.toList = [] := by
  have e : nd (UInt8.ofNat d.toNat) = false := by
    rw [nd, UInt8.toNat_ofNat']
    exact decide_eq_false (by omega)
  simp [keyL, keep, strOfNums_data, e]
theorem key_one_other (d : Int) (h0 : 0 ≤ d) (h1 : d ≤ 255) (h : d < 48 ∨ 57 < d) : str (keyL (strOfNums [d]).data.toList) = strOfNums [d] := by
  have e : nd (UInt8.ofNat d.toNat) = true := by
    rw [nd, UInt8.toNat_ofNat']
    exact decide_eq_true (by omega)
  simp [keyL, keep, e, str, strOfNums]
theorem ins_digit (l : List UInt8) (p : Nat) (d : Int) (h1 : 48 ≤ d) (h2 : d ≤ 57) : keyL (l.take p ++ (strOfNums [d]).data.toList ++ l.drop p) = keyL l := by
  rw [keyL_append, keyL_append, key_one_digit d h1 h2, List.nil_append, ← keyL_append, List.take_append_drop]
theorem ins_other (s : ByteArray) (p : Nat) (d : Int) (h0 : 0 ≤ d) (h1 : d ≤ 255) (h : d < 48 ∨ 57 < d) :
    str (keyL (s.extract p s.size).data.toList) ++ strOfNums [d] ++ str (keyL (s.extract 0 p).data.toList) = str (keyL (s.data.toList.take p ++ (strOfNums [d]).data.toList ++ s.data.toList.drop p)) := by
  rw [keyL_append, keyL_append, ← str_append, ← str_append, key_one_other d h0 h1 h, ByteArray.append_assoc]
  have e1 : (s.extract p s.size).data.toList = s.data.toList.drop p := by
    rw [ByteArray.data_extract, Array.toList_extract]
    simp [List.extract]
    exact List.take_of_length_le (by simp)
  have e2 : (s.extract 0 p).data.toList = s.data.toList.take p := by
    rw [ByteArray.data_extract, Array.toList_extract]
    simp [List.extract]
  rw [e1, e2]
theorem key_size (s : ByteArray) (n : Nat) (h : s.size ≤ n) : (str (keyL s.data.toList)).size ≤ n := by
  rw [str_size]
  have := List.length_filter_le nd s.data.toList
  simp [keyL, keep] at *
  omega

set_option maxHeartbeats 1000000 in
theorem inserted_core (s : ByteArray) (p : Nat) (d : Int) (w : World) (hs : s.size ≤ 1048575) (hp : p ≤ s.size) (hd0 : 0 ≤ d) (hd1 : d ≤ 255) :
    Calls Trym.prog 5 #[.string s, .int .i64 (p : Int), .int .u8 d] w fun e w' => e = .returned (.bool true) ∧ Below w.heap.size w w' := by
  have hsi : ¬ (1048575 : Int) < s.size := by omega
  have hpi : ¬ (s.size : Int) < p := by omega
  have hp0 : ¬ (p : Int) < 0 := by omega
  have hcv := one_string d
  obtain ⟨one, HO⟩ : ∃ one, Hid (one = strOfNums [d]) := ⟨_, rfl⟩
  rw [← HO.out] at hcv
  have HO1 : one.size = 1 := by rw [HO.out, strOfNums_size]; rfl
  go_enter Trym.func5, Trym.ntmps5
  go_upto_region 8 with (go_at_call 10; refine (zzBytes10_small _ _ _ _ (by omega)).mono ?_; rintro e w' ⟨rfl, hw⟩; obtain rfl := hw.symm)
  clear hcv
  have hb1 : Cls w (w.alloc (.cells #[.int .u8 d] 5)) := (Below.refl _ _).alloc (Nat.le_refl _) _
  generalize w.alloc (.cells #[.int .u8 d] 5) = w1 at *
  go_cut [8] from 9 (fun v wx => ∃ got, v = .string got ∧ Cls w wx ∧ Hid (got = str (keyL (s.data.toList.take p ++ one.data.toList ++ s.data.toList.drop p))))
  case first =>
    refine wp_region_cls (by kernel_rfl) (by kernel_rfl) hb1 ?_
    have ha1 := fun W => run_string_add_sum (P := Trym.prog) W (s.extract 0 p) one (by rw [HO1, ByteArray.size_extract]; omega)
    have ha2 := fun W => run_string_add_sum (P := Trym.prog) W (s.extract 0 p ++ one) (s.extract p s.size) (by rw [ByteArray.size_append, HO1, ByteArray.size_extract, ByteArray.size_extract]; omega)
    repeat (go_big_quiet_step ((intro hW; first | exact rfl | (refine cls_call hW (zzNameKey_any _ _ ?_); rw [ByteArray.size_append, ByteArray.size_append, HO1, ByteArray.size_extract, ByteArray.size_extract]; omega))))
    refine wpQuiet_nil ?_
    intro wx hwx
    go_wp2
    go_meet
    case rel => exact ⟨_, rfl, hwx, by rw [ins_data s one p]; rfl⟩
  case rest =>
    obtain ⟨got, rfl, hbc, HG⟩ := hcut
    clear hb1 w1
    by_cases hdig : 48 ≤ d ∧ d ≤ 57
    · obtain ⟨h1, h2⟩ := hdig
      have HE : Hid (str (keyL s.data.toList) = got) := by
        show _ = _
        rw [HG.out, HO.out, ins_digit s.data.toList p d h1 h2]
      clear HG HO
      go_wp2_with fail
      refine (zzNameKey_any _ _ (by omega)).mono ?_
      rintro e w' ⟨he, hb⟩
      obtain rfl : e = .returned (.string got) := he.trans (ret_str HE.out)
      clear he
      have hb3 : Below w.heap.size w w' := Below.trans hbc (hb.mono hbc.size)
      go_wp2_with fail
      go_ret
      exact ⟨ret_bool (by simp), hb3⟩
    · have hoth : d < 48 ∨ (48 ≤ d ∧ 57 < d) := by omega
      have HE : Hid (str (keyL (s.extract p s.size).data.toList) ++ one ++ str (keyL (s.extract 0 p).data.toList) = got) := by
        show _ = _
        rw [HG.out, HO.out, ins_other s p d hd0 hd1 (by omega)]
      clear HG HO hdig
      have hk1 : (str (keyL (s.extract p s.size).data.toList)).size ≤ 2097152 := key_size _ _ (by rw [ByteArray.size_extract]; omega)
      have hk2 : (str (keyL (s.extract 0 p).data.toList)).size ≤ 2097152 := key_size _ _ (by rw [ByteArray.size_extract]; omega)
      have hc1 := fun W => zzNameKey_any (s.extract p s.size) W (by rw [ByteArray.size_extract]; omega)
      have hc2 := fun W => zzNameKey_any (s.extract 0 p) W (by rw [ByteArray.size_extract]; omega)
      generalize str (keyL (s.extract p s.size).data.toList) = k1 at *
      generalize str (keyL (s.extract 0 p).data.toList) = k2 at *
      have ha1 := fun W => run_string_add_sum (P := Trym.prog) W k1 one (by omega)
      have ha2 := fun W => run_string_add_sum (P := Trym.prog) W (k1 ++ one) k2 (by rw [ByteArray.size_append]; omega)
      rw [HE.out] at ha2
      clear HE
      generalize k1 ++ one = k3 at *
      have HC1 : Hid (∀ W, Calls Trym.prog 7 #[.string (s.extract p s.size)] W fun e w' => e = .returned (.string k1) ∧ Below W.heap.size W w') := hc1
      have HC2 : Hid (∀ W, Calls Trym.prog 7 #[.string (s.extract 0 p)] W fun e w' => e = .returned (.string k2) ∧ Below W.heap.size W w') := hc2
      clear hk1 hk2 hc1 hc2
      rcases hoth with h1 | ⟨h1, h2⟩
      all_goals
        go_upto_region 11 with fail
        refine wp_region_cls (by kernel_rfl) (by kernel_rfl) hbc ?_
        repeat (go_big_quiet_step ((intro hW; first | exact rfl | exact cls_call hW (HC1.out _) | exact cls_call hW (HC2.out _))))
        refine wpQuiet_nil ?_
        intro wx hwx
        go_wp2
        go_ret
        exact ⟨ret_bool (by simp), hwx⟩
end Go.Proofs.Qxb6602006aMods
