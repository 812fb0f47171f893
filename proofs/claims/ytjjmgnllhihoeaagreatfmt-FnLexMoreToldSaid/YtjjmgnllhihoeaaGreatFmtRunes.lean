/- What the small tests on one rune or one byte answer. -/
import Derived.Test.YtjjmgnllhihoeaaGreatFmtRows
import Derived.WalkKit
import Derived.WalkSpells
import Derived.WalkLawsBesides
import Derived.Lib.Hide
set_option linter.unusedSimpArgs false
set_option linter.unusedVariables false
namespace Go.Proofs.YtjjmgnllhihoeaaGreatFmt
open Go.RowKit

def hwP (r : Int) : Prop := r = 32 ∨ r = 9 ∨ r = 13
def wsP (r : Int) : Prop := r = 10 ∨ hwP r
def upP (r : Int) : Prop := 65 ≤ r ∧ r ≤ 90
def loP (r : Int) : Prop := 97 ≤ r ∧ r ≤ 122
def nuP (r : Int) : Prop := 48 ≤ r ∧ r ≤ 57
def ifP (r : Int) : Prop := upP r ∨ loP r ∨ r = 95
def idP (r : Int) : Prop := ifP r ∨ nuP r
def syP (r : Int) : Prop := r = 33 ∨ r = 36 ∨ r = 58 ∨ r = 126 ∨ r = 43 ∨ r = 45 ∨ r = 38 ∨ r = 124 ∨ r = 94 ∨ r = 61 ∨ r = 60 ∨ r = 62 ∨ r = 42 ∨ r = 47 ∨ r = 37
def ltP (r : Int) : Prop := r = 95 ∨ (97 ≤ r ∧ r ≤ 122) ∨ (65 ≤ r ∧ r ≤ 90)
instance (r : Int) : Decidable (hwP r) := by unfold hwP; infer_instance
instance (r : Int) : Decidable (wsP r) := by unfold wsP; infer_instance
instance (r : Int) : Decidable (upP r) := by unfold upP; infer_instance
instance (r : Int) : Decidable (loP r) := by unfold loP; infer_instance
instance (r : Int) : Decidable (nuP r) := by unfold nuP; infer_instance
instance (r : Int) : Decidable (ifP r) := by unfold ifP; infer_instance
instance (r : Int) : Decidable (idP r) := by unfold idP; infer_instance
instance (r : Int) : Decidable (syP r) := by unfold syP; infer_instance
instance (r : Int) : Decidable (ltP r) := by unfold ltP; infer_instance
def hwB (r : Int) : Bool := decide (hwP r)
def wsB (r : Int) : Bool := decide (wsP r)
def upB (r : Int) : Bool := decide (upP r)
def loB (r : Int) : Bool := decide (loP r)
def nuB (r : Int) : Bool := decide (nuP r)
def ifB (r : Int) : Bool := decide (ifP r)
def idB (r : Int) : Bool := decide (idP r)
def syB (r : Int) : Bool := decide (syP r)
def ltB (r : Int) : Bool := decide (ltP r)

/-- A test's answer; the world is as it was. -/
def BoolP (x : Bool) (w : World) (e : Ending) (w' : World) : Prop := e = .returned (.bool x) ∧ w = w'

set_option maxHeartbeats 1000000 in
theorem isHW_any (r : Int) (w : World) : Calls Tryz.prog 70 #[.int .i32 r] w (BoolP (hwB r) w) := by
  by_cases h : hwP r
  · have e : hwB r = true := decide_eq_true h
    rw [e]
    clear e
    unfold hwP at h
    rcases h with rfl | rfl | rfl
    all_goals
      go_enter Tryz.func70, Tryz.ntmps70
      go_wp2
      go_ret
      exact ⟨rfl, rfl⟩
  · have e : hwB r = false := decide_eq_false h
    rw [e]
    clear e
    unfold hwP at h
    have x32 : (r == 32) = false := by simp; omega
    have x9 : (r == 9) = false := by simp; omega
    have x13 : (r == 13) = false := by simp; omega
    clear h
    go_enter Tryz.func70, Tryz.ntmps70
    go_wp2
    go_ret
    exact ⟨rfl, rfl⟩

set_option maxHeartbeats 1000000 in
theorem isSymbol_any (r : Int) (w : World) : Calls Tryz.prog 38 #[.int .i32 r] w (BoolP (syB r) w) := by
  by_cases h : syP r
  · have e : syB r = true := decide_eq_true h
    rw [e]
    clear e
    unfold syP at h
    rcases h with rfl | rfl | rfl | rfl | rfl | rfl | rfl | rfl | rfl | rfl | rfl | rfl | rfl | rfl | rfl
    all_goals
      go_enter Tryz.func38, Tryz.ntmps38
      go_wp2
      go_ret
      exact ⟨rfl, rfl⟩
  · have e : syB r = false := decide_eq_false h
    rw [e]
    clear e
    unfold syP at h
    have x33 : (r == 33) = false := by simp; omega
    have x36 : (r == 36) = false := by simp; omega
    have x58 : (r == 58) = false := by simp; omega
    have x126 : (r == 126) = false := by simp; omega
    have x43 : (r == 43) = false := by simp; omega
    have x45 : (r == 45) = false := by simp; omega
    have x38 : (r == 38) = false := by simp; omega
    have x124 : (r == 124) = false := by simp; omega
    have x94 : (r == 94) = false := by simp; omega
    have x61 : (r == 61) = false := by simp; omega
    have x60 : (r == 60) = false := by simp; omega
    have x62 : (r == 62) = false := by simp; omega
    have x42 : (r == 42) = false := by simp; omega
    have x47 : (r == 47) = false := by simp; omega
    have x37 : (r == 37) = false := by simp; omega
    clear h
    go_enter Tryz.func38, Tryz.ntmps38
    go_wp2
    go_ret
    exact ⟨rfl, rfl⟩

set_option maxHeartbeats 1000000 in
theorem isUpper_any (r : Int) (w : World) : Calls Tryz.prog 56 #[.int .i32 r] w (BoolP (upB r) w) := by
  by_cases h1 : 65 ≤ r
  · by_cases h2 : r ≤ 90
    · have e : upB r = true := decide_eq_true ⟨h1, h2⟩
      rw [e]
      clear e
      go_enter Tryz.func56, Tryz.ntmps56
      go_wp2
      go_ret
      exact ⟨rfl, rfl⟩
    · have e : upB r = false := decide_eq_false (fun h => h2 h.2)
      rw [e]
      clear e
      go_enter Tryz.func56, Tryz.ntmps56
      go_wp2
      go_ret
      exact ⟨rfl, rfl⟩
  · have e : upB r = false := decide_eq_false (fun h => h1 h.1)
    rw [e]
    clear e
    go_enter Tryz.func56, Tryz.ntmps56
    go_wp2
    go_ret
    exact ⟨rfl, rfl⟩

set_option maxHeartbeats 1000000 in
theorem isLower_any (r : Int) (w : World) : Calls Tryz.prog 57 #[.int .i32 r] w (BoolP (loB r) w) := by
  by_cases h1 : 97 ≤ r
  · by_cases h2 : r ≤ 122
    · have e : loB r = true := decide_eq_true ⟨h1, h2⟩
      rw [e]
      clear e
      go_enter Tryz.func57, Tryz.ntmps57
      go_wp2
      go_ret
      exact ⟨rfl, rfl⟩
    · have e : loB r = false := decide_eq_false (fun h => h2 h.2)
      rw [e]
      clear e
      go_enter Tryz.func57, Tryz.ntmps57
      go_wp2
      go_ret
      exact ⟨rfl, rfl⟩
  · have e : loB r = false := decide_eq_false (fun h => h1 h.1)
    rw [e]
    clear e
    go_enter Tryz.func57, Tryz.ntmps57
    go_wp2
    go_ret
    exact ⟨rfl, rfl⟩

set_option maxHeartbeats 1000000 in
theorem isNumber_any (r : Int) (w : World) : Calls Tryz.prog 76 #[.int .i32 r] w (BoolP (nuB r) w) := by
  by_cases h1 : 48 ≤ r
  · by_cases h2 : r ≤ 57
    · have e : nuB r = true := decide_eq_true ⟨h1, h2⟩
      rw [e]
      clear e
      go_enter Tryz.func76, Tryz.ntmps76
      go_wp2
      go_ret
      exact ⟨rfl, rfl⟩
    · have e : nuB r = false := decide_eq_false (fun h => h2 h.2)
      rw [e]
      clear e
      go_enter Tryz.func76, Tryz.ntmps76
      go_wp2
      go_ret
      exact ⟨rfl, rfl⟩
  · have e : nuB r = false := decide_eq_false (fun h => h1 h.1)
    rw [e]
    clear e
    go_enter Tryz.func76, Tryz.ntmps76
    go_wp2
    go_ret
    exact ⟨rfl, rfl⟩

set_option maxHeartbeats 1000000 in
theorem digit_any (r : Int) (w : World) : Calls Tryz.prog 15 #[.int .u8 r] w (BoolP (nuB r) w) := by
  by_cases h1 : 48 ≤ r
  · by_cases h2 : r ≤ 57
    · have e : nuB r = true := decide_eq_true ⟨h1, h2⟩
      rw [e]
      clear e
      go_enter Tryz.func15, Tryz.ntmps15
      go_wp2
      go_ret
      exact ⟨rfl, rfl⟩
    · have e : nuB r = false := decide_eq_false (fun h => h2 h.2)
      rw [e]
      clear e
      go_enter Tryz.func15, Tryz.ntmps15
      go_wp2
      go_ret
      exact ⟨rfl, rfl⟩
  · have e : nuB r = false := decide_eq_false (fun h => h1 h.1)
    rw [e]
    clear e
    go_enter Tryz.func15, Tryz.ntmps15
    go_wp2
    go_ret
    exact ⟨rfl, rfl⟩


set_option maxHeartbeats 1000000 in
theorem isWS_any (r : Int) (w : World) : Calls Tryz.prog 48 #[.int .i32 r] w (BoolP (wsB r) w) := by
  by_cases h : r = 10
  · have e : wsB r = true := decide_eq_true (.inl h)
    rw [e]
    clear e
    subst h
    go_enter Tryz.func48, Tryz.ntmps48
    go_wp2_with fail
    go_ret
    exact ⟨rfl, rfl⟩
  · have e : wsB r = hwB r := by unfold wsB hwB; congr 1; exact propext ⟨fun h2 => h2.resolve_left h, .inr⟩
    rw [e]
    clear e
    have x10 : (r == 10) = false := by simp; omega
    clear h
    go_enter Tryz.func48, Tryz.ntmps48
    go_wp2_with (go_at_call 70; refine (isHW_any _ _).mono ?_; rintro e w' ⟨rfl, rfl⟩)
    go_ret
    exact ⟨rfl, rfl⟩

set_option maxHeartbeats 1000000 in
theorem isIF_any (r : Int) (w : World) : Calls Tryz.prog 36 #[.int .i32 r] w (BoolP (ifB r) w) := by
  cases h1 : upB r with
  | true =>
    have e : ifB r = true := decide_eq_true (.inl (of_decide_eq_true h1))
    rw [e]
    clear e
    go_enter Tryz.func36, Tryz.ntmps36
    go_wp2_with (go_at_call 56; refine (isUpper_any _ _).mono ?_; rintro e w' ⟨rfl, rfl⟩)
    go_ret
    exact ⟨rfl, rfl⟩
  | false =>
    cases h2 : loB r with
    | true =>
      have e : ifB r = true := decide_eq_true (.inr (.inl (of_decide_eq_true h2)))
      rw [e]
      clear e
      go_enter Tryz.func36, Tryz.ntmps36
      go_wp2_with (first | (go_at_call 56; refine (isUpper_any _ _).mono ?_; rintro e w' ⟨rfl, rfl⟩) | (go_at_call 57; refine (isLower_any _ _).mono ?_; rintro e w' ⟨rfl, rfl⟩))
      go_ret
      exact ⟨rfl, rfl⟩
    | false =>
      by_cases h3 : r = 95
      · have e : ifB r = true := decide_eq_true (.inr (.inr h3))
        rw [e]
        clear e
        have x95 : (r == 95) = true := by simp; exact h3
        clear h3
        go_enter Tryz.func36, Tryz.ntmps36
        go_wp2_with (first | (go_at_call 56; refine (isUpper_any _ _).mono ?_; rintro e w' ⟨rfl, rfl⟩) | (go_at_call 57; refine (isLower_any _ _).mono ?_; rintro e w' ⟨rfl, rfl⟩))
        go_ret
        exact ⟨rfl, rfl⟩
      · have e : ifB r = false := decide_eq_false (fun h => by
          rcases h with h | h | h
          · exact (of_decide_eq_false h1) h
          · exact (of_decide_eq_false h2) h
          · exact h3 h)
        rw [e]
        clear e
        have x95 : (r == 95) = false := by simp; exact h3
        clear h3
        go_enter Tryz.func36, Tryz.ntmps36
        go_wp2_with (first | (go_at_call 56; refine (isUpper_any _ _).mono ?_; rintro e w' ⟨rfl, rfl⟩) | (go_at_call 57; refine (isLower_any _ _).mono ?_; rintro e w' ⟨rfl, rfl⟩))
        go_ret
        exact ⟨rfl, rfl⟩

set_option maxHeartbeats 1000000 in
theorem isID_any (r : Int) (w : World) : Calls Tryz.prog 58 #[.int .i32 r] w (BoolP (idB r) w) := by
  cases h1 : ifB r with
  | true =>
    have e : idB r = true := decide_eq_true (.inl (of_decide_eq_true h1))
    rw [e]
    clear e
    go_enter Tryz.func58, Tryz.ntmps58
    go_wp2_with (go_at_call 36; refine (isIF_any _ _).mono ?_; rintro e w' ⟨rfl, rfl⟩)
    go_ret
    exact ⟨rfl, rfl⟩
  | false =>
    have e : idB r = nuB r := by unfold idB nuB; congr 1; exact propext ⟨fun h2 => h2.resolve_left (of_decide_eq_false h1), .inr⟩
    rw [e]
    clear e
    go_enter Tryz.func58, Tryz.ntmps58
    go_wp2_with (first | (go_at_call 36; refine (isIF_any _ _).mono ?_; rintro e w' ⟨rfl, rfl⟩) | (go_at_call 76; refine (isNumber_any _ _).mono ?_; rintro e w' ⟨rfl, rfl⟩))
    go_ret
    exact ⟨rfl, rfl⟩


set_option maxHeartbeats 1000000 in
theorem letter_any (r : Int) (w : World) : Calls Tryz.prog 17 #[.int .u8 r] w (BoolP (ltB r) w) := by
  by_cases h0 : r = 95
  · have e : ltB r = true := decide_eq_true (.inl h0)
    rw [e]
    clear e
    subst h0
    go_enter Tryz.func17, Tryz.ntmps17
    go_wp2
    go_ret
    exact ⟨rfl, rfl⟩
  · have x95 : (r == 95) = false := by simp; exact h0
    by_cases h1 : 97 ≤ r
    · by_cases h2 : r ≤ 122
      · have e : ltB r = true := decide_eq_true (.inr (.inl ⟨h1, h2⟩))
        rw [e]
        clear e h0
        go_enter Tryz.func17, Tryz.ntmps17
        go_wp2
        go_ret
        exact ⟨rfl, rfl⟩
      · have e : ltB r = false := decide_eq_false (fun h => by unfold ltP at h; omega)
        rw [e]
        have h90 : decide (r ≤ 90) = false := by simp; omega
        clear e h0
        go_enter Tryz.func17, Tryz.ntmps17
        go_wp2
        all_goals first | (exfalso; omega) | (go_ret; exact ⟨rfl, rfl⟩)
    · by_cases h2 : 65 ≤ r
      · by_cases h3 : r ≤ 90
        · have e : ltB r = true := decide_eq_true (.inr (.inr ⟨h2, h3⟩))
          rw [e]
          clear e h0
          go_enter Tryz.func17, Tryz.ntmps17
          go_wp2
          go_ret
          exact ⟨rfl, rfl⟩
        · have e : ltB r = false := decide_eq_false (fun h => by unfold ltP at h; omega)
          rw [e]
          clear e h0
          go_enter Tryz.func17, Tryz.ntmps17
          go_wp2
          go_ret
          exact ⟨rfl, rfl⟩
      · have e : ltB r = false := decide_eq_false (fun h => by unfold ltP at h; omega)
        rw [e]
        clear e h0
        go_enter Tryz.func17, Tryz.ntmps17
        go_wp2
        go_ret
        exact ⟨rfl, rfl⟩

end Go.Proofs.YtjjmgnllhihoeaaGreatFmt
