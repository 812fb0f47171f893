/- lexSymbol at a comment that runs to the line's end. -/
import Derived.Test.YtjjmgnllhihoeaaGreatFmtUntil
set_option linter.unusedSimpArgs false
set_option linter.unusedVariables false
namespace Go.Proofs.YtjjmgnllhihoeaaGreatFmt
open Go.RowKit
attribute [local go_sem ↓] Go.wp_at_zero Go.wp_at_succ

/-- No token: the place is behind j and behind the white space there; some fodder more. -/
def SkipTP (B b : Nat) (t : ByteArray) (j n m : Nat) (w : World) (e : Ending) (w' : World) : Prop :=
  e = .returned .nilIface ∧ (∃ p' ts' m' : Nat, j ≤ p' ∧ (∀ k, j ≤ k → k < p' → Ws (ch t k)) ∧ ¬ Ws (ch t p') ∧ m' ≤ m + 2 ∧ LexI B b t p' ts' n m' w') ∧ Below B w w'

set_option maxRecDepth 100000 in
set_option maxHeartbeats 6400000 in
theorem symLine_any (B b : Nat) (t : ByteArray) (p j ts n m : Nat) (w : World) (h : LexI B b t p ts n m w) (hm : m ≤ 999990) (h1 : ch t p = 35 ∨ (ch t p = 47 ∧ ch t (p + 1) = 47)) (hpj : p < j)
    (hj : ∀ k, p ≤ k → k < j → ch t k ≠ 10 ∧ ch t k ≠ 256) (hend : ch t j = 10 ∨ ch t j = 256) :
    Calls Tryz.prog 39 #[.pointer (some ⟨b, 0, none⟩)] w (SkipTP B b t j n m w) := by
  obtain ⟨src, tv, fv, l1, l2, ln, ls, fr, xs, ys, h⟩ := h
  have d9 := h.cells.2.2.2.2.2.2.2.2.1
  have hlow : ch t p < 128 := by omega
  have H0 := Lib.hid h.i
  have HJ : Hid (∀ k, p + 1 ≤ k → k < j → ch t k ≠ 10 ∧ ch t k ≠ 256) := Lib.hid (fun k h1 h2 => hj k (by omega) h2)
  have HE := Lib.hid hend
  have hBw := h.base
  obtain ⟨hr, hx, _⟩ := rv_low t p hlow
  clear h hj hend
  rw [hx.symm] at HJ
  have hpj' : nx t p ≤ j := by omega
  have HX := Lib.hid hx
  clear hx hlow
  have key : ∀ (w1 : World), LexI B b t (nx t p) ts n m w1 → Calls Tryz.prog 60 #[.pointer (some ⟨b, 0, none⟩)] w1 (UntilP B b t j ts n m w1) := fun w1 hL => until_any B b t (nx t p) j ts n m w1 hL hpj' HJ.out HE.out
  have hBb := H0.out.base
  rcases h1 with h35 | ⟨h47, h47'⟩
  · rw [h35] at hr
    clear h35
    have HR := Lib.hid hr
    clear hr
    cases fr
    all_goals
      as_aux_lemma =>
        go_enter Tryz.func39, Tryz.ntmps39
        go_wp2_with (first
          | (go_at_call 27; refine (next_any B b t p ts n m _ H0.out).mono ?_; rintro e w1 ⟨rfl, hL1, hg1⟩; rw [HR.out]; have hbn := (Below.refl B w).grown hg1 hBw (fun k hk => by cases hk; exact hBb))
          | (go_at_call 60; refine (key _ hL1).mono ?_; rintro e w2 ⟨p2, s2, bl, ind, rfl, hL2, hp2, hw2, hn2, hb2, hsz2⟩; have hcat : (Utf8.encode 35).size + s2.size ≤ 9223372036854775807 := (by have : (Utf8.encode 35).size = 1 := (by decide); omega); have HW2 := Lib.hid hw2; clear hw2)
          | (go_at_call 29; refine (addFodder_any B b t p2 ts n m _ ?_ (by omega) _ bl ind _ 1 1 ?_).mono ?_; exact hL2.old ((Below.refl _ w2).alloc (Nat.le_refl _) _); (first | exact .inl ⟨rfl, by omega⟩ | exact .inr (.inr ⟨rfl, by omega⟩)); rintro e w3 ⟨rfl, hL3, hb3⟩))
        go_ret
        exact ⟨rfl, ⟨p2, ts, m + 1, hp2, HW2.out, hn2, by omega, hL3⟩, ((hbn.trans hb2).alloc hL2.baseW _).trans hb3⟩
  · rw [h47] at hr
    have HR2 : Hid (rv t (nx t p) = 47) := Lib.hid (by rw [HX.out, (rv_low t (p + 1) (by omega)).1, h47']; rfl)
    clear h47 h47'
    have HR := Lib.hid hr
    clear hr
    cases fr
    all_goals
      as_aux_lemma =>
        go_enter Tryz.func39, Tryz.ntmps39
        go_wp2_with (first
          | (go_at_call 27; refine (next_any B b t p ts n m _ H0.out).mono ?_; rintro e w1 ⟨rfl, hL1, hg1⟩; rw [HR.out]; have hbn := (Below.refl B w).grown hg1 hBw (fun k hk => by cases hk; exact hBb))
          | (go_at_call 26; refine (peek_any B b t (nx t p) ts n m _ hL1).mono ?_; rintro e w5 ⟨rfl, hL1, hb5⟩; rw [HR2.out]; have hbn := hbn.trans (hb5.mono (Nat.le_trans hBw hbn.size)))
          | (go_at_call 60; refine (key _ hL1).mono ?_; rintro e w2 ⟨p2, s2, bl, ind, rfl, hL2, hp2, hw2, hn2, hb2, hsz2⟩; have hcat : (Utf8.encode 47).size + s2.size ≤ 9223372036854775807 := (by have : (Utf8.encode 47).size = 1 := (by decide); omega); have HW2 := Lib.hid hw2; clear hw2)
          | (go_at_call 29; refine (addFodder_any B b t p2 ts n m _ ?_ (by omega) _ bl ind _ 1 1 ?_).mono ?_; exact hL2.old ((Below.refl _ w2).alloc (Nat.le_refl _) _); (first | exact .inl ⟨rfl, by omega⟩ | exact .inr (.inr ⟨rfl, by omega⟩)); rintro e w3 ⟨rfl, hL3, hb3⟩))
        go_ret
        exact ⟨rfl, ⟨p2, ts, m + 1, hp2, HW2.out, hn2, by omega, hL3⟩, ((hbn.trans hb2).alloc hL2.baseW _).trans hb3⟩

end Go.Proofs.YtjjmgnllhihoeaaGreatFmt
