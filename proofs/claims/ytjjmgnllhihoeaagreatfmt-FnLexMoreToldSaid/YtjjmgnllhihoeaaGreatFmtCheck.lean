/- How much white space two texts have in common at their heads. -/
import Derived.Test.YtjjmgnllhihoeaaGreatFmtBuf
set_option linter.unusedSimpArgs false
set_option linter.unusedVariables false
namespace Go.Proofs.YtjjmgnllhihoeaaGreatFmt
open Go.RowKit
attribute [local go_sem ↓] Go.wp_at_zero Go.wp_at_succ

/-- Some length i of a's head is blank and stands in b too; the answer is i, or 0 where b parts from a's blank. -/
def CheckP (a b : ByteArray) (w : World) (e : Ending) (w' : World) : Prop :=
  ∃ i r : Nat, e = .returned (.int .i64 r) ∧ (∀ k, k < i → Bl (ch a k) ∧ ch b k = ch a k) ∧ ((r = i ∧ ¬ Bl (ch a i)) ∨ (r = 0 ∧ Bl (ch a i) ∧ ch b i ≠ ch a i)) ∧ Below w.heap.size w w'

set_option maxHeartbeats 6400000 in
theorem check_any (a b : ByteArray) (w : World) (ha : a.size ≤ 1000000) : Calls Tryz.prog 66 #[.string a, .string b] w (CheckP a b w) := by
  go_enter Tryz.func66, Tryz.ntmps66
  go_wp2_with fail
  go_loopg [5] a.size (fun k x5 wr => ∃ i : Nat, x5 = .int .i64 i ∧ i ≤ a.size ∧ a.size - i ≤ k ∧ (∀ k, k < i → Bl (ch a k) ∧ ch b k = ch a k) ∧ Below w.heap.size w wr)
  case atStart => exact ⟨0, rfl, Nat.zero_le _, by omega, fun k hk => absurd hk (Nat.not_lt_zero k), Below.refl _ _⟩
  case round =>
    obtain ⟨i, rfl, hi, hk, hp, hb⟩ := hrel
    have HP := Lib.hid hp
    have HB := Lib.hid hb
    have HK := Lib.hid hk
    clear hp hb hk
    by_cases hia : i < a.size
    · have i0 : (0 : Int) ≤ (i : Int) := by omega
      have hca := ch_in a i hia
      by_cases hv : a[i].toNat = 32
      · as_aux_lemma =>
        have hbl : Bl (ch a i) := by rw [hca, hv]; unfold Bl; omega
        have hcv : ch a i = 32 := by rw [hca, hv]
        have HBl := Lib.hid hbl
        have HV := Lib.hid hcv
        clear hbl hcv hca
        by_cases hib : i < b.size
        · have hcb := ch_in b i hib
          by_cases hbv : b[i].toNat = 32
          · have hcbv : ch b i = 32 := by rw [hcb, hbv]
            have HW := Lib.hid hcbv
            clear hcbv hcb
            go_wp2_with fail
            go_quiet (fail)
            go_wp2_with fail
            have hk' := HK.out
            go_roundg (gk - 1)
            case measure => omega
            case rel =>
              refine ⟨i + 1, by go_num, by omega, by omega, fun k hk => ?_, HB.out.trans ⟨rfl, rfl, rfl, Nat.le_refl _, fun _ _ => rfl⟩⟩
              by_cases hki : k < i
              · exact HP.out k hki
              · rw [show k = i by omega]; exact ⟨HBl.out, by rw [HW.out, HV.out]⟩
          · have hne : ch b i ≠ ch a i := by rw [hcb, HV.out]; exact hbv
            have HN := Lib.hid hne
            have x1 : ((32 : Int) != (b[i].toNat : Int)) = true := by simp; omega
            clear hne hcb hbv
            go_wp2_with fail
            go_quiet (fail)
            go_wp2_with fail
            go_ret
            exact ⟨i, 0, rfl, HP.out, .inr ⟨rfl, HBl.out, HN.out⟩, HB.out.trans ⟨rfl, rfl, rfl, Nat.le_refl _, fun _ _ => rfl⟩⟩
        · have hne : ch b i ≠ ch a i := by rw [ch_out b i (by omega), HV.out]; decide
          have HN := Lib.hid hne
          clear hne
          go_wp2_with fail
          go_ret
          exact ⟨i, 0, rfl, HP.out, .inr ⟨rfl, HBl.out, HN.out⟩, HB.out⟩
      · by_cases hv9 : a[i].toNat = 9
        · as_aux_lemma =>
          clear hv
          rename a[i].toNat = 9 => hv
          have hbl : Bl (ch a i) := by rw [hca, hv]; unfold Bl; omega
          have hcv : ch a i = 9 := by rw [hca, hv]
          have HBl := Lib.hid hbl
          have HV := Lib.hid hcv
          clear hbl hcv hca
          by_cases hib : i < b.size
          · have hcb := ch_in b i hib
            by_cases hbv : b[i].toNat = 9
            · have hcbv : ch b i = 9 := by rw [hcb, hbv]
              have HW := Lib.hid hcbv
              clear hcbv hcb
              go_wp2_with fail
              go_quiet (fail)
              go_wp2_with fail
              have hk' := HK.out
              go_roundg (gk - 1)
              case measure => omega
              case rel =>
                refine ⟨i + 1, by go_num, by omega, by omega, fun k hk => ?_, HB.out.trans ⟨rfl, rfl, rfl, Nat.le_refl _, fun _ _ => rfl⟩⟩
                by_cases hki : k < i
                · exact HP.out k hki
                · rw [show k = i by omega]; exact ⟨HBl.out, by rw [HW.out, HV.out]⟩
            · have hne : ch b i ≠ ch a i := by rw [hcb, HV.out]; exact hbv
              have HN := Lib.hid hne
              have x1 : ((9 : Int) != (b[i].toNat : Int)) = true := by simp; omega
              clear hne hcb hbv
              go_wp2_with fail
              go_quiet (fail)
              go_wp2_with fail
              go_ret
              exact ⟨i, 0, rfl, HP.out, .inr ⟨rfl, HBl.out, HN.out⟩, HB.out.trans ⟨rfl, rfl, rfl, Nat.le_refl _, fun _ _ => rfl⟩⟩
          · have hne : ch b i ≠ ch a i := by rw [ch_out b i (by omega), HV.out]; decide
            have HN := Lib.hid hne
            clear hne
            go_wp2_with fail
            go_ret
            exact ⟨i, 0, rfl, HP.out, .inr ⟨rfl, HBl.out, HN.out⟩, HB.out⟩
        · have hnb : ¬ Bl (ch a i) := by rw [hca]; unfold Bl; omega
          have HN := Lib.hid hnb
          have x1 : ((a[i].toNat : Int) != 32) = true := by simp; omega
          have x2 : ((a[i].toNat : Int) != 9) = true := by simp; omega
          clear hnb hca hv hv9
          go_wp2_with fail
          go_ret
          exact ⟨i, i, rfl, HP.out, .inl ⟨rfl, HN.out⟩, HB.out⟩
    · have hnb : ¬ Bl (ch a i) := by rw [ch_out a i (by omega)]; unfold Bl; omega
      have HN := Lib.hid hnb
      clear hnb
      go_wp2_with fail
      go_ret
      exact ⟨i, i, rfl, HP.out, .inl ⟨rfl, HN.out⟩, HB.out⟩

end Go.Proofs.YtjjmgnllhihoeaaGreatFmt
