/- The reference's lexer: is a byte in a text, has a block a line of blanks; a number. -/
import Derived.Test.YtjjmgnllhihoeaaGreatFmtSpE
set_option linter.unusedSimpArgs false
set_option linter.unusedVariables false
namespace Go.Proofs.YtjjmgnllhihoeaaGreatFmt
open Go.RowKit
attribute [local go_sem ↓] Go.wp_at_zero Go.wp_at_succ

/-- Is the byte 13 among the first k bytes? -/
def crB (s : ByteArray) (k : Nat) : Bool := (s.data.toList.take k).any fun x => x.toNat == 13
theorem crB_step (s : ByteArray) (k : Nat) (h : k < s.size) : crB s (k + 1) = (crB s k || (s[k].toNat == 13)) := by
  unfold crB
  rw [List.take_succ_eq_append_getElem (by simpa using h), List.any_append]
  simp
  rfl

set_option maxRecDepth 100000 in
set_option maxHeartbeats 800000 in
theorem within_any (s : ByteArray) (w : World) (hs : s.size ≤ 200000) :
    Calls Tryz.prog 43 #[.string s, .int .u8 13] w fun e w' => e = .returned (.bool (crB s s.size)) ∧ w' = w := by
  go_enter Tryz.func43, Tryz.ntmps43
  go_wp2
  go_loopg [8] s.size (fun k x8 wr => ∃ i : Nat, i ≤ s.size ∧ x8 = .int .i64 i ∧ crB s i = false ∧ s.size - i ≤ k ∧ wr = w)
  case atStart => exact ⟨0, Nat.zero_le _, rfl, by simp [crB], Nat.le_refl _, rfl⟩
  case round =>
    obtain ⟨i, hi, rfl, hf, hk, rfl⟩ := hrel
    have HF := Lib.hid hf
    have HK := Lib.hid hk
    clear hf hk
    by_cases hlt : i < s.size
    · have HS := Lib.hid (crB_step s i hlt)
      by_cases hc : s[i].toNat = 13
      · have hb : ((s[i].toNat : Int) == 13) = true := by rw [hc]; rfl
        have HC := Lib.hid hc
        clear hc
        go_wp2
        go_ret
        refine ⟨?_, rfl⟩
        have h1 : crB s (i + 1) = true := by rw [HS.out, HC.out]; simp
        have h2 : crB s s.size = true := by
          unfold crB at h1 ⊢
          rw [List.any_eq_true] at h1 ⊢
          obtain ⟨x, hx, hx2⟩ := h1
          exact ⟨x, by rw [List.take_of_length_le (by rw [← Lib.size_eq]; exact Nat.le_refl _)]; exact List.mem_of_mem_take hx, hx2⟩
        rw [h2]; rfl
      · have hb : ((s[i].toNat : Int) == 13) = false := by simp; omega
        have HC := Lib.hid hc
        clear hc
        go_wp2
        have hk' := HK.out
        go_roundg (gk - 1)
        case measure => omega
        case rel => exact ⟨i + 1, by omega, by go_num, by rw [HS.out, HF.out]; simpa using HC.out, by omega, rfl⟩
    · have hkk : i = s.size := by omega
      go_wp2
      go_ret
      subst hkk
      exact ⟨by rw [HF.out]; rfl, rfl⟩

/-- A line of blanks alone, from the place i on: k bytes are left. -/
def fnt (s : ByteArray) : Nat → Nat → Bool → Bool → Bool → Bool
  | 0, _, _, _, _ => false
  | k + 1, i, bl, an, fi => if ch s i = 10 then (if (!fi && bl && an) = true then true else fnt s k (i + 1) true false false)
      else if ch s i = 32 ∨ ch s i = 9 then fnt s k (i + 1) bl true fi else fnt s k (i + 1) false an fi

set_option maxRecDepth 100000 in
set_option maxHeartbeats 3200000 in
theorem faint_any (s : ByteArray) (w : World) (hs : s.size ≤ 200000) :
    Calls Tryz.prog 42 #[.string s] w fun e w' => e = .returned (.bool (fnt s s.size 0 true false true)) ∧ w' = w := by
  go_enter Tryz.func42, Tryz.ntmps42
  go_wp2_with fail
  go_loopg [3, 4, 5, 9] s.size (fun k x3 x4 x5 x9 wr => ∃ (i : Nat) (bl an fi : Bool), i ≤ s.size ∧ x3 = .bool bl ∧ x4 = .bool an ∧ x5 = .bool fi ∧ x9 = .int .i64 i ∧ fnt s (s.size - i) i bl an fi = fnt s s.size 0 true false true ∧ s.size - i ≤ k ∧ wr = w)
  case atStart => exact ⟨0, true, false, true, Nat.zero_le _, rfl, rfl, rfl, rfl, rfl, Nat.le_refl _, rfl⟩
  case round =>
    obtain ⟨i, bl, an, fi, hi, rfl, rfl, rfl, rfl, hf, hk, rfl⟩ := hrel
    have HK := Lib.hid hk
    clear hk
    by_cases hlt : i < s.size
    · rw [show s.size - i = (s.size - (i + 1)) + 1 by omega, fnt] at hf
      have hci := ch_in s i hlt
      by_cases h10 : s[i].toNat = 10
      · have x10 : ((s[i].toNat : Int) == 10) = true := by rw [h10]; rfl
        rw [if_pos (by rw [hci, h10])] at hf
        clear hci h10
        cases fi <;> cases bl <;> cases an
        all_goals
          simp only [Bool.not_true, Bool.not_false, Bool.and_true, Bool.and_false, Bool.true_and, Bool.false_and, if_true, Bool.false_eq_true, if_false] at hf
          have HF := Lib.hid hf
          clear hf
          as_aux_lemma =>
          go_wp2_with fail
          first
            | (have hk' := HK.out
               go_roundg (gk - 1)
               case measure => omega
               case rel => exact ⟨i + 1, true, false, false, by omega, rfl, rfl, rfl, by go_num, HF.out, by omega, rfl⟩)
            | (go_ret
               exact ⟨by rw [← HF.out]; rfl, rfl⟩)
      · have x10 : ((s[i].toNat : Int) == 10) = false := by simp; omega
        rw [if_neg (by rw [hci]; exact h10)] at hf
        by_cases h32 : s[i].toNat = 32
        · rw [if_pos (.inl (by rw [hci, h32]))] at hf
          have HF := Lib.hid hf
          have x32 : ((s[i].toNat : Int) == 32) = true := by rw [h32]; rfl
          clear hci hf h10 h32
          as_aux_lemma =>
          go_wp2_with fail
          have hk' := HK.out
          go_roundg (gk - 1)
          case measure => omega
          case rel => exact ⟨i + 1, bl, true, fi, by omega, rfl, rfl, rfl, by go_num, HF.out, by omega, rfl⟩
        · have x32 : ((s[i].toNat : Int) == 32) = false := by simp; omega
          by_cases h9 : s[i].toNat = 9
          · rw [if_pos (.inr (by rw [hci, h9]))] at hf
            have HF := Lib.hid hf
            have x9 : ((s[i].toNat : Int) == 9) = true := by rw [h9]; rfl
            clear hci hf h10 h32 h9
            as_aux_lemma =>
            go_wp2_with fail
            have hk' := HK.out
            go_roundg (gk - 1)
            case measure => omega
            case rel => exact ⟨i + 1, bl, true, fi, by omega, rfl, rfl, rfl, by go_num, HF.out, by omega, rfl⟩
          · rw [if_neg (by rw [hci]; omega)] at hf
            have HF := Lib.hid hf
            have x9 : ((s[i].toNat : Int) == 9) = false := by simp; omega
            clear hci hf h10 h32 h9
            as_aux_lemma =>
            go_wp2_with fail
            have hk' := HK.out
            go_roundg (gk - 1)
            case measure => omega
            case rel => exact ⟨i + 1, false, an, fi, by omega, rfl, rfl, rfl, by go_num, HF.out, by omega, rfl⟩
    · rw [show s.size - i = 0 by omega, fnt] at hf
      have HF := Lib.hid hf
      clear hf
      go_wp2_with fail
      go_ret
      exact ⟨by rw [← HF.out]; rfl, rfl⟩
end Go.Proofs.YtjjmgnllhihoeaaGreatFmt
