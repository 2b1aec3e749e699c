import Derived.Test.Qxb6601733aModsWalkA
import Derived.Deep.DeepCutAuto
import Derived.Deep.CutBlock
namespace Go.Proofs.Qxb6601733aMods
open Go.RowKit

/-- one byte, by a name of its own -/
theorem byte_at {w : World} {b off n : Nat} {zs : List Int} (h : ∀ j, j < n → w.cell? ⟨b, off + j, none⟩ = some (.int .u8 (zs.getD j 0))) (p : Nat) (hp : p < n) :
    ∃ z, w.cell? ⟨b, off + p, none⟩ = some (.int .u8 z) ∧ Hid (hd (zs.drop p) = z) := ⟨_, h p hp, hd_drop zs p⟩

theorem hd_end (zs : List Int) (k : Nat) (h : zs.length ≤ k) : hd (zs.drop k) = 0 := by
  rw [List.drop_of_length_le h]; rfl

theorem lt_of_hd (zs : List Int) (k n : Nat) (c : Int) (hn : zs.length = n) (h : hd (zs.drop k) = c) (hc : c ≠ 0) : k < n := by
  rcases Nat.lt_or_ge k n with h' | h'
  · exact h'
  · rw [hd_end zs k (by omega)] at h; exact absurd h.symm hc

theorem digitsEnd_from (b off n c k : Nat) (zs : List Int) (w : World) (hn : n ≤ 1048576) (hk : k ≤ n) (hlen : zs.length = n)
    (hcell : ∀ j, j < n → w.cell? ⟨b, off + j, none⟩ = some (.int .u8 (zs.getD j 0))) (K R : Int) (hK : K = (k : Int)) (hR : R = ((k + dcnt (zs.drop k) : Nat) : Int)) :
    Calls Trym.prog 12 #[.slice (some ⟨b, off, none⟩) n c, .int .i64 K] w fun e w' => e = .returned (.int .i64 R) ∧ w' = w := by
  subst hK; subst hR
  exact digitsEnd_any b off n c k zs w hn hk hlen hcell

theorem expo_bare (zs : List Int) (p : Nat) (h : hd (zs.drop p) = 101 ∨ hd (zs.drop p) = 69) (h2 : ¬ (hd (zs.drop (p + 1)) = 43 ∨ hd (zs.drop (p + 1)) = 45)) :
    ans p (expo (zs.drop p)) = if dcnt (zs.drop (p + 1)) = 0 then -1 else ((p + 1 + dcnt (zs.drop (p + 1)) : Nat) : Int) := by
  rw [expo, if_pos h, List.drop_drop, if_neg h2]
  split
  · rfl
  · simp only [ans]; omega
theorem expo_sign (zs : List Int) (p : Nat) (h : hd (zs.drop p) = 101 ∨ hd (zs.drop p) = 69) (h2 : hd (zs.drop (p + 1)) = 43 ∨ hd (zs.drop (p + 1)) = 45) :
    ans p (expo (zs.drop p)) = if dcnt (zs.drop (p + 1 + 1)) = 0 then -1 else ((p + 1 + 1 + dcnt (zs.drop (p + 1 + 1)) : Nat) : Int) := by
  show ans p (expo (zs.drop p)) = if dcnt (zs.drop (p + 2)) = 0 then -1 else ((p + 2 + dcnt (zs.drop (p + 2)) : Nat) : Int)
  rw [expo, if_pos h, List.drop_drop, if_pos h2, List.drop_drop]
  split
  · rfl
  · simp only [ans]; omega

set_option maxRecDepth 100000 in
set_option maxHeartbeats 1000000 in
theorem numberEnd_any (b off n c i : Nat) (zs : List Int) (w : World) (hn : n ≤ 1048576) (hi : i < n) (hlen0 : zs.length = n)
    (hcell : ∀ j, j < n → w.cell? ⟨b, off + j, none⟩ = some (.int .u8 (zs.getD j 0))) :
    Calls Trym.prog 10 #[.slice (some ⟨b, off, none⟩) n c, .int .i64 (i : Int)] w fun e w' => e = .returned (.int .i64 (ans i (numE (zs.drop i)))) ∧ w' = w := by
  have hlen : Hid (zs.length = n) := hlen0
  clear hlen0
  obtain ⟨z, hck, HZ⟩ := byte_at hcell i hi
  have HC : Hid (∀ j, j < n → w.cell? ⟨b, off + j, none⟩ = some (.int .u8 (zs.getD j 0))) := hcell
  clear hcell
  go_enter Trym.func10, Trym.ntmps10
  go_upto_if 11 with fail
  go_cut [1] from 7 (fun s wc => ∃ p : Nat, i ≤ p ∧ p ≤ n ∧ s = .int .i64 p ∧ wc = w ∧ Hid (ans i (numE (zs.drop i)) = ans p (intg (zs.drop p))))
  case first =>
    by_cases hz : z = 45
    · have hzb : (z == 45) = true := by simp [hz]
      go_wp2
      go_meet
      case rel =>
        refine ⟨i + 1, by omega, by omega, by go_num, rfl, ?_⟩
        show ans i (numE (zs.drop i)) = _
        rw [numE, if_pos (by rw [HZ.out]; exact hz), List.drop_drop, ans_up]
    · have hzb : (z == 45) = false := by simp [hz]
      go_wp2
      go_meet
      case rel =>
        refine ⟨i, by omega, by omega, rfl, rfl, ?_⟩
        show ans i (numE (zs.drop i)) = _
        rw [numE, if_neg (by rw [HZ.out]; exact hz)]
  case rest =>
    obtain ⟨p, hip, hpn, rfl, rfl, HA⟩ := hcut
    clear hck HZ
    go_upto_block 0 with fail
    go_cut [1] from 7 (fun s wx => ∃ q : Nat, i ≤ q ∧ q ≤ n ∧ s = .int .i64 q ∧ wx = wc ∧ Hid (ans i (numE (zs.drop i)) = ans q (frac (zs.drop q))))
    case first =>
      by_cases hp : p < n
      · obtain ⟨z, hck, HZ⟩ := byte_at HC.out p hp
        by_cases h48 : z = 48
        · have hb1 : (z == 48) = true := by simp [h48]
          go_wp2
          go_meet
          case rel =>
            refine ⟨p + 1, by omega, by omega, by go_num, rfl, ?_⟩
            show ans i (numE (zs.drop i)) = _
            rw [HA.out, intg, if_pos (by rw [HZ.out]; exact h48), List.drop_drop, ans_up]
        · have hb1 : (z == 48) = false := by simp [h48]
          by_cases h49 : 49 ≤ z
          · by_cases h57 : z ≤ 57
            · have hdl : p + dcnt (zs.drop p) ≤ n := by rw [← hlen.out]; exact dcnt_drop_le zs p (by rw [hlen.out]; exact hpn)
              have hdc := digitsEnd_any b off n c p zs wc hn hpn hlen.out HC.out
              go_wp2_with (go_at_call 12; refine hdc.mono ?_; rintro e w' ⟨rfl, rfl⟩)
              go_meet
              case rel =>
                refine ⟨p + dcnt (zs.drop p), by omega, hdl, rfl, rfl, ?_⟩
                show ans i (numE (zs.drop i)) = _
                rw [HA.out, intg, if_neg (by rw [HZ.out]; exact h48), if_pos (by rw [HZ.out]; exact ⟨h49, h57⟩), List.drop_drop, ans_up]
            · go_wp2
              go_ret
              exact ⟨ret_int (by rw [HA.out, intg, if_neg (by rw [HZ.out]; exact h48), if_neg (by rw [HZ.out]; omega)]; rfl), rfl⟩
          · go_wp2
            go_ret
            exact ⟨ret_int (by rw [HA.out, intg, if_neg (by rw [HZ.out]; exact h48), if_neg (by rw [HZ.out]; omega)]; rfl), rfl⟩
      · have HZ : Hid (hd (zs.drop p) = 0) := hd_end zs p (by rw [hlen.out]; omega)
        go_wp2
        go_ret
        exact ⟨ret_int (by rw [HA.out, intg, HZ.out]; rfl), rfl⟩
    case rest =>
      clear HA hip hpn
      clear p
      obtain ⟨p, hip, hpn, rfl, rfl, HA⟩ := hcut
      go_upto_region 8 with fail
      go_cut [60] from 7 (fun s wx => ∃ t : Bool, s = .bool t ∧ wx = wc ∧ Hid (t = decide (hd (zs.drop p) = 46)))
      case first =>
        by_cases hp : p < n
        · obtain ⟨z, hck, HZ⟩ := byte_at HC.out p hp
          go_wp2
          go_meet
          case rel => exact ⟨_, rfl, rfl, by rw [HZ.out]; show (z == 46) = _; rfl⟩
        · have HZ : Hid (hd (zs.drop p) = 0) := hd_end zs p (by rw [hlen.out]; omega)
          go_wp2
          go_meet
          case rel => exact ⟨_, rfl, rfl, by rw [HZ.out]; rfl⟩
      case rest =>
        obtain ⟨t, rfl, rfl, HT⟩ := hcut
        go_upto_if 60 with fail
        go_cut [1] from 7 (fun s wx => ∃ q : Nat, i ≤ q ∧ q ≤ n ∧ s = .int .i64 q ∧ wx = wc ∧ Hid (ans i (numE (zs.drop i)) = ans q (expo (zs.drop q))))
        case first =>
          cases t
          · go_wp2
            go_meet
            case rel =>
              refine ⟨p, by omega, by omega, rfl, rfl, ?_⟩
              show ans i (numE (zs.drop i)) = _
              rw [HA.out, frac, if_neg (of_decide_eq_false HT.out.symm)]
          · have hpl : p < n := lt_of_hd zs p n 46 hlen.out (of_decide_eq_true HT.out.symm) (by decide)
            have hdl : p + 1 + dcnt (zs.drop (p + 1)) ≤ n := by rw [← hlen.out]; exact dcnt_drop_le zs (p + 1) (by rw [hlen.out]; exact hpl)
            by_cases hd0 : dcnt (zs.drop (p + 1)) = 0
            · have hdc := digitsEnd_from b off n c (p + 1) zs wc hn hpl hlen.out HC.out ((p : Int) + 1) ((p : Int) + 1) (by omega) (by omega)
              have H0 : Hid (dcnt (zs.drop (p + 1)) = 0) := hd0
              clear hd0 hdl
              go_wp2_with (go_at_call 12; refine hdc.mono ?_; rintro e w' ⟨rfl, rfl⟩)
              go_ret
              exact ⟨ret_int (by rw [HA.out, frac, if_pos (of_decide_eq_true HT.out.symm), List.drop_drop, if_pos H0.out]; rfl), rfl⟩
            · obtain ⟨q, HQ⟩ : ∃ q, Hid (q = p + 1 + dcnt (zs.drop (p + 1))) := ⟨_, rfl⟩
              have hq1 : p + 1 < q := by have := HQ.out; omega
              have hq2 : q ≤ n := by have := HQ.out; omega
              have hqb : ((q : Int) == (p : Int) + 1) = false := by simp; omega
              have hdc := digitsEnd_from b off n c (p + 1) zs wc hn hpl hlen.out HC.out ((p : Int) + 1) (q : Int) (by omega) (by have := HQ.out; omega)
              have H0 : Hid (dcnt (zs.drop (p + 1)) ≠ 0) := hd0
              clear hd0 hdl
              go_wp2_with (go_at_call 12; refine hdc.mono ?_; rintro e w' ⟨rfl, rfl⟩)
              go_meet
              case rel =>
                refine ⟨q, by omega, by omega, rfl, rfl, ?_⟩
                show ans i (numE (zs.drop i)) = _
                rw [HA.out, frac, if_pos (of_decide_eq_true HT.out.symm), List.drop_drop, if_neg H0.out, List.drop_drop, ans_up, HQ.out, Nat.add_assoc]
        case rest =>
          clear HA HT hip hpn
          clear t p
          obtain ⟨p, hip, hpn, rfl, rfl, HA⟩ := hcut
          go_upto_region 13 with fail
          go_cut [86] from 7 (fun s wx => ∃ t : Bool, s = .bool t ∧ wx = wc ∧ Hid (t = decide (hd (zs.drop p) = 101 ∨ hd (zs.drop p) = 69)))
          case first =>
            by_cases hp : p < n
            · obtain ⟨z, hck, HZ⟩ := byte_at HC.out p hp
              by_cases h1 : z = 101
              · have hb1 : (z == 101) = true := by simp [h1]
                go_wp2
                go_meet
                case rel => exact ⟨_, rfl, rfl, by rw [HZ.out]; exact (decide_eq_true (.inl h1)).symm⟩
              · have hb1 : (z == 101) = false := by simp [h1]
                by_cases h2 : z = 69
                · have hb2 : (z == 69) = true := by simp [h2]
                  go_wp2
                  go_meet
                  case rel => exact ⟨_, rfl, rfl, by rw [HZ.out]; exact (decide_eq_true (.inr h2)).symm⟩
                · have hb2 : (z == 69) = false := by simp [h2]
                  go_wp2
                  go_meet
                  case rel => exact ⟨_, rfl, rfl, by rw [HZ.out]; exact (decide_eq_false (by rintro (h | h); exact h1 h; exact h2 h)).symm⟩
            · have HZ : Hid (hd (zs.drop p) = 0) := hd_end zs p (by rw [hlen.out]; omega)
              go_wp2
              go_meet
              case rel => exact ⟨_, rfl, rfl, by rw [HZ.out]; rfl⟩
          case rest =>
            obtain ⟨t, rfl, rfl, HT⟩ := hcut
            cases t
            · go_wp2
              go_ret
              exact ⟨ret_int (by rw [HA.out, expo, if_neg (of_decide_eq_false HT.out.symm)]; rfl), rfl⟩
            · have HT0 : hd (zs.drop p) = 101 ∨ hd (zs.drop p) = 69 := of_decide_eq_true HT.out.symm
              have HT2 : Hid (hd (zs.drop p) = 101 ∨ hd (zs.drop p) = 69) := HT0
              clear HT HT0
              have hpl : p < n := by
                rcases HT2.out with h | h
                · exact lt_of_hd zs p n 101 hlen.out h (by decide)
                · exact lt_of_hd zs p n 69 hlen.out h (by decide)
              go_upto_region 14 with fail
              go_cut [1] from 7 (fun s wx => ∃ q : Nat, Hid (q = p + 1) ∧ i ≤ q ∧ q ≤ n ∧ s = .int .i64 q ∧ wx = wc)
              case first =>
                go_wp2
                go_meet
                case rel => exact ⟨p + 1, rfl, by omega, by omega, by go_num, rfl⟩
              case rest =>
                obtain ⟨q, HQ, hiq, hqn, rfl, rfl⟩ := hcut
                go_upto_region 15 with fail
                go_cut [106] from 7 (fun s wx => ∃ t : Bool, s = .bool t ∧ wx = wc ∧ Hid (t = decide (hd (zs.drop q) = 43 ∨ hd (zs.drop q) = 45)))
                case first =>
                  by_cases hp : q < n
                  · obtain ⟨z, hck, HZ⟩ := byte_at HC.out q hp
                    by_cases h1 : z = 43
                    · have hb1 : (z == 43) = true := by simp [h1]
                      go_wp2
                      go_meet
                      case rel => exact ⟨_, rfl, rfl, by rw [HZ.out]; exact (decide_eq_true (.inl h1)).symm⟩
                    · have hb1 : (z == 43) = false := by simp [h1]
                      by_cases h2 : z = 45
                      · have hb2 : (z == 45) = true := by simp [h2]
                        go_wp2
                        go_meet
                        case rel => exact ⟨_, rfl, rfl, by rw [HZ.out]; exact (decide_eq_true (.inr h2)).symm⟩
                      · have hb2 : (z == 45) = false := by simp [h2]
                        go_wp2
                        go_meet
                        case rel => exact ⟨_, rfl, rfl, by rw [HZ.out]; exact (decide_eq_false (by rintro (h | h); exact h1 h; exact h2 h)).symm⟩
                  · have HZ : Hid (hd (zs.drop q) = 0) := hd_end zs q (by rw [hlen.out]; omega)
                    go_wp2
                    go_meet
                    case rel => exact ⟨_, rfl, rfl, by rw [HZ.out]; rfl⟩
                case rest =>
                  obtain ⟨t, rfl, rfl, HT⟩ := hcut
                  go_upto_if 106 with fail
                  go_cut [1] from 7 (fun s wx => ∃ r : Nat, i ≤ r ∧ r ≤ n ∧ s = .int .i64 r ∧ wx = wc ∧ Hid (ans i (numE (zs.drop i)) = if dcnt (zs.drop r) = 0 then -1 else ((r + dcnt (zs.drop r) : Nat) : Int)))
                  case first =>
                    cases t
                    · go_wp2
                      go_meet
                      case rel =>
                        refine ⟨q, by omega, by omega, rfl, rfl, ?_⟩
                        have hT := of_decide_eq_false HT.out.symm
                        show ans i (numE (zs.drop i)) = _
                        rw [HQ.out] at hT ⊢
                        rw [HA.out, expo_bare zs p HT2.out hT]
                    · have hT : hd (zs.drop q) = 43 ∨ hd (zs.drop q) = 45 := of_decide_eq_true HT.out.symm
                      have HT3 : Hid (hd (zs.drop q) = 43 ∨ hd (zs.drop q) = 45) := hT
                      clear hT
                      have hql : q < n := by
                        rcases HT3.out with h | h
                        · exact lt_of_hd zs q n 43 hlen.out h (by decide)
                        · exact lt_of_hd zs q n 45 hlen.out h (by decide)
                      go_wp2
                      go_meet
                      case rel =>
                        refine ⟨q + 1, by omega, by omega, by go_num, rfl, ?_⟩
                        have hT := HT3.out
                        show ans i (numE (zs.drop i)) = _
                        rw [HQ.out] at hT ⊢
                        rw [HA.out, expo_sign zs p HT2.out hT]
                  case rest =>
                    clear HT HA HQ hiq hqn
                    obtain ⟨r, hir, hrn, rfl, rfl, HA⟩ := hcut
                    have hdl : r + dcnt (zs.drop r) ≤ n := by rw [← hlen.out]; exact dcnt_drop_le zs r (by rw [hlen.out]; exact hrn)
                    by_cases hd0 : dcnt (zs.drop r) = 0
                    · have hdc := digitsEnd_from b off n c r zs wc hn hrn hlen.out HC.out (r : Int) (r : Int) rfl (by omega)
                      have H0 : Hid (dcnt (zs.drop r) = 0) := hd0
                      clear hd0 hdl
                      go_wp2_with (go_at_call 12; refine hdc.mono ?_; rintro e w' ⟨rfl, rfl⟩)
                      go_ret
                      exact ⟨ret_int (by rw [HA.out, if_pos H0.out]), rfl⟩
                    · obtain ⟨m, HM⟩ : ∃ m, Hid (m = r + dcnt (zs.drop r)) := ⟨_, rfl⟩
                      have hm1 : r < m := by have := HM.out; omega
                      have hmb : ((m : Int) == (r : Int)) = false := by simp; omega
                      have hdc := digitsEnd_from b off n c r zs wc hn hrn hlen.out HC.out (r : Int) (m : Int) rfl (by have := HM.out; omega)
                      have H0 : Hid (dcnt (zs.drop r) ≠ 0) := hd0
                      clear hd0 hdl
                      go_wp2_with (go_at_call 12; refine hdc.mono ?_; rintro e w' ⟨rfl, rfl⟩)
                      go_ret
                      exact ⟨ret_int (by rw [HA.out, if_neg H0.out, HM.out]), rfl⟩
end Go.Proofs.Qxb6601733aMods
