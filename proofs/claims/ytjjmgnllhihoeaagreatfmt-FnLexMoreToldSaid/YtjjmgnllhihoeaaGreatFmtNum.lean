/- A number. -/
import Derived.Test.YtjjmgnllhihoeaaGreatFmtBuf
set_option linter.unusedSimpArgs false
set_option linter.unusedVariables false
namespace Go.Proofs.YtjjmgnllhihoeaaGreatFmt
open Go.RowKit
attribute [local go_sem ↓] Go.wp_at_zero Go.wp_at_succ

/-- What stands ahead in each state of lexNumber. -/
def NS (c : Nat → Nat) (st : Int) (p j : Nat) : Prop :=
  (st = 0 ∧ Num c p j) ∨ (st = 1 ∧ TailD c p j) ∨ (st = 2 ∧ TailI c p j) ∨ (st = 4 ∧ Dg (c p) ∧ TailF c (p + 1) j) ∨ (st = 5 ∧ TailF c p j) ∨ (st = 7 ∧ TailE c p j) ∨ (st = 8 ∧ Dg (c p) ∧ TailZ c (p + 1) j) ∨ (st = 9 ∧ TailZ c p j)

section
variable {c : Nat → Nat} {p j : Nat}
theorem NS.s0 (h : Num c p j) : NS c 0 p j := .inl ⟨rfl, h⟩
theorem NS.s1 (h : TailD c p j) : NS c 1 p j := .inr (.inl ⟨rfl, h⟩)
theorem NS.s2 (h : TailI c p j) : NS c 2 p j := .inr (.inr (.inl ⟨rfl, h⟩))
theorem NS.s4 (h : Dg (c p) ∧ TailF c (p + 1) j) : NS c 4 p j := .inr (.inr (.inr (.inl ⟨rfl, h⟩)))
theorem NS.s5 (h : TailF c p j) : NS c 5 p j := .inr (.inr (.inr (.inr (.inl ⟨rfl, h⟩))))
theorem NS.s7 (h : TailE c p j) : NS c 7 p j := .inr (.inr (.inr (.inr (.inr (.inl ⟨rfl, h⟩)))))
theorem NS.s8 (h : Dg (c p) ∧ TailZ c (p + 1) j) : NS c 8 p j := .inr (.inr (.inr (.inr (.inr (.inr (.inl ⟨rfl, h⟩))))))
theorem NS.s9 (h : TailZ c p j) : NS c 9 p j := .inr (.inr (.inr (.inr (.inr (.inr (.inr ⟨rfl, h⟩))))))
end

theorem TailI.cut {c : Nat → Nat} {p j : Nat} (h : TailI c p j) : (Dg (c p) ∧ TailI c (p + 1) j) ∨ TailD c p j := by
  obtain ⟨a, h1, h2, h3, h4⟩ := h
  by_cases hp : p = a
  · subst hp; exact .inr h4
  · exact .inl ⟨h2 p (Nat.le_refl _) (by omega), a, by omega, fun k hk1 hk2 => h2 k (by omega) hk2, h3, h4⟩
theorem TailF.cut {c : Nat → Nat} {p j : Nat} (h : TailF c p j) : (Dg (c p) ∧ TailF c (p + 1) j) ∨ TailX c p j := by
  obtain ⟨a, h1, h2, h3, h4⟩ := h
  by_cases hp : p = a
  · subst hp; exact .inr h4
  · exact .inl ⟨h2 p (Nat.le_refl _) (by omega), a, by omega, fun k hk1 hk2 => h2 k (by omega) hk2, h3, h4⟩
theorem TailZ.cut {c : Nat → Nat} {p j : Nat} (h : TailZ c p j) : (Dg (c p) ∧ TailZ c (p + 1) j) ∨ (p = j ∧ EndN c p) := by
  obtain ⟨h1, h2, h3⟩ := h
  by_cases hp : p = j
  · subst hp; exact .inr ⟨rfl, h3⟩
  · exact .inl ⟨h2 p (Nat.le_refl _) (by omega), by omega, fun k hk1 hk2 => h2 k (by omega) hk2, h3⟩
theorem TailX.cut {c : Nat → Nat} {p j : Nat} (h : TailX c p j) : (c p = 101 ∧ TailE c (p + 1) j) ∨ (c p = 69 ∧ TailE c (p + 1) j) ∨ (p = j ∧ EndN c p) := by
  rcases h with ⟨h1 | h1, h2⟩ | ⟨rfl, h2⟩
  · exact .inl ⟨h1, h2⟩
  · exact .inr (.inl ⟨h1, h2⟩)
  · exact .inr (.inr ⟨rfl, h2⟩)
theorem TailD.cut {c : Nat → Nat} {p j : Nat} (h : TailD c p j) : (c p = 46 ∧ Dg (c (p + 1)) ∧ TailF c (p + 2) j) ∨ (c p = 101 ∧ TailE c (p + 1) j) ∨ (c p = 69 ∧ TailE c (p + 1) j) ∨ (p = j ∧ EndN c p) := by
  rcases h with h | ⟨_, h⟩
  · exact .inl h
  · exact .inr h.cut

theorem NS.next {c : Nat → Nat} {st : Int} {p j : Nat} (h : NS c st p j) :
    (st = 0 ∧ c p = 48 ∧ NS c 1 (p + 1) j) ∨ (st = 0 ∧ (49 ≤ c p ∧ c p ≤ 57) ∧ NS c 2 (p + 1) j) ∨ (st = 1 ∧ c p = 46 ∧ NS c 4 (p + 1) j) ∨ (st = 1 ∧ c p = 101 ∧ NS c 7 (p + 1) j) ∨ (st = 1 ∧ c p = 69 ∧ NS c 7 (p + 1) j) ∨ (st = 1 ∧ p = j ∧ EndN c p) ∨ (st = 2 ∧ c p = 46 ∧ NS c 4 (p + 1) j) ∨ (st = 2 ∧ c p = 101 ∧ NS c 7 (p + 1) j) ∨ (st = 2 ∧ c p = 69 ∧ NS c 7 (p + 1) j) ∨ (st = 2 ∧ Dg (c p) ∧ NS c 2 (p + 1) j) ∨ (st = 2 ∧ p = j ∧ EndN c p) ∨ (st = 4 ∧ Dg (c p) ∧ NS c 5 (p + 1) j) ∨ (st = 5 ∧ c p = 101 ∧ NS c 7 (p + 1) j) ∨ (st = 5 ∧ c p = 69 ∧ NS c 7 (p + 1) j) ∨ (st = 5 ∧ Dg (c p) ∧ NS c 5 (p + 1) j) ∨ (st = 5 ∧ p = j ∧ EndN c p) ∨ (st = 7 ∧ c p = 43 ∧ NS c 8 (p + 1) j) ∨ (st = 7 ∧ c p = 45 ∧ NS c 8 (p + 1) j) ∨ (st = 7 ∧ Dg (c p) ∧ NS c 9 (p + 1) j) ∨ (st = 8 ∧ Dg (c p) ∧ NS c 9 (p + 1) j) ∨ (st = 9 ∧ Dg (c p) ∧ NS c 9 (p + 1) j) ∨ (st = 9 ∧ p = j ∧ EndN c p) := by
  rcases h with ⟨rfl, h⟩ | ⟨rfl, h⟩ | ⟨rfl, h⟩ | ⟨rfl, h⟩ | ⟨rfl, h⟩ | ⟨rfl, h⟩ | ⟨rfl, h⟩ | ⟨rfl, h⟩
  · rcases h with ⟨h1, h2⟩ | ⟨h1, h2, h3⟩
    · left; exact ⟨rfl, h1, NS.s1 h2⟩
    · right; left; exact ⟨rfl, ⟨h1, h2⟩, NS.s2 h3⟩
  · rcases h.cut with ⟨h1, h2, h3⟩ | ⟨h1, h2⟩ | ⟨h1, h2⟩ | ⟨h1, h2⟩
    · right; right; left; exact ⟨rfl, h1, NS.s4 ⟨h2, h3⟩⟩
    · right; right; right; left; exact ⟨rfl, h1, NS.s7 h2⟩
    · right; right; right; right; left; exact ⟨rfl, h1, NS.s7 h2⟩
    · right; right; right; right; right; left; exact ⟨rfl, h1, h2⟩
  · rcases h.cut with ⟨h1, h2⟩ | h
    · right; right; right; right; right; right; right; right; right; left; exact ⟨rfl, h1, NS.s2 h2⟩
    · rcases h.cut with ⟨h1, h2, h3⟩ | ⟨h1, h2⟩ | ⟨h1, h2⟩ | ⟨h1, h2⟩
      · right; right; right; right; right; right; left; exact ⟨rfl, h1, NS.s4 ⟨h2, h3⟩⟩
      · right; right; right; right; right; right; right; left; exact ⟨rfl, h1, NS.s7 h2⟩
      · right; right; right; right; right; right; right; right; left; exact ⟨rfl, h1, NS.s7 h2⟩
      · right; right; right; right; right; right; right; right; right; right; left; exact ⟨rfl, h1, h2⟩
  · right; right; right; right; right; right; right; right; right; right; right; left; exact ⟨rfl, h.1, NS.s5 h.2⟩
  · rcases h.cut with ⟨h1, h2⟩ | h
    · right; right; right; right; right; right; right; right; right; right; right; right; right; right; left; exact ⟨rfl, h1, NS.s5 h2⟩
    · rcases h.cut with ⟨h1, h2⟩ | ⟨h1, h2⟩ | ⟨h1, h2⟩
      · right; right; right; right; right; right; right; right; right; right; right; right; left; exact ⟨rfl, h1, NS.s7 h2⟩
      · right; right; right; right; right; right; right; right; right; right; right; right; right; left; exact ⟨rfl, h1, NS.s7 h2⟩
      · right; right; right; right; right; right; right; right; right; right; right; right; right; right; right; left; exact ⟨rfl, h1, h2⟩
  · rcases h with ⟨h1, h2⟩ | ⟨h1 | h1, h2, h3⟩
    · right; right; right; right; right; right; right; right; right; right; right; right; right; right; right; right; right; right; left; exact ⟨rfl, h1, NS.s9 h2⟩
    · right; right; right; right; right; right; right; right; right; right; right; right; right; right; right; right; left; exact ⟨rfl, h1, NS.s8 ⟨h2, h3⟩⟩
    · right; right; right; right; right; right; right; right; right; right; right; right; right; right; right; right; right; left; exact ⟨rfl, h1, NS.s8 ⟨h2, h3⟩⟩
  · right; right; right; right; right; right; right; right; right; right; right; right; right; right; right; right; right; right; right; left; exact ⟨rfl, h.1, NS.s9 h.2⟩
  · rcases h.cut with ⟨h1, h2⟩ | ⟨h1, h2⟩
    · right; right; right; right; right; right; right; right; right; right; right; right; right; right; right; right; right; right; right; right; left; exact ⟨rfl, h1, NS.s9 h2⟩
    · right; right; right; right; right; right; right; right; right; right; right; right; right; right; right; right; right; right; right; right; right; exact ⟨rfl, h1, h2⟩

/-- The number is a token. -/
def NumP (B b : Nat) (t : ByteArray) (p n : Nat) (w : World) (e : Ending) (w' : World) : Prop := e = .returned .nilIface ∧ LexI B b t p p (n + 1) 0 w' ∧ Below B w w'

theorem peek_r {B b : Nat} {t : ByteArray} {p ts n m q : Nat} {acc : List UInt8} {w : World} {r : Int} (h : LB B b t p ts n m q acc w) (hr : rv t p = r) :
    Calls Tryz.prog 26 #[.pointer (some ⟨b, 0, none⟩)] w (fun e w' => e = .returned (.int .i32 r) ∧ LB B b t p ts n m q acc w' ∧ Below B w w') := by
  subst hr; exact peek_buf h

set_option maxRecDepth 100000 in
set_option maxHeartbeats 12800000 in
theorem lexNumber_any (B b : Nat) (t : ByteArray) (p j ts n m : Nat) (w : World) (h : LexI B b t p ts n m w) (hn : n ≤ 200000) (hN : Num (ch t) p j) :
    Calls Tryz.prog 31 #[.pointer (some ⟨b, 0, none⟩)] w (NumP B b t j n w) := by
  have H0 := Lib.hid (LB.fresh h)
  have HN : Hid (NS (ch t) 0 p j) := Lib.hid (NS.s0 hN)
  have hBw := h.baseW
  have hps := h.bounds.2
  clear h hN
  go_enter Tryz.func31, Tryz.ntmps31
  go_wp2_with fail
  have H1 : Below B w (w.alloc (.cells #[.slice none 0 0, .int .i64 0, .int .i8 0] 89)) := (Below.refl B w).alloc hBw _
  go_step3
  go_wp2_with fail
  go_step3
  go_wp2_with fail
  generalize w.heap.size = q at H0 ⊢
  generalize w.alloc (.cells #[.slice none 0 0, .int .i64 0, .int .i8 0] 89) = w0 at H0 H1 ⊢
  go_loopg [4] (t.size + 1 - p) (fun k x4 wr => ∃ (p' : Nat) (st : Int) (acc : List UInt8), x4 = .int .i64 st ∧ NS (ch t) st p' j ∧ LB B b t p' ts n m q acc wr ∧ Below B w wr ∧ acc.length ≤ 4 * (p' - p) ∧ t.size + 1 - p' ≤ k ∧ p ≤ p' ∧ p' ≤ t.size)
  case atStart => exact ⟨p, 0, [], rfl, HN.out, H0.out, H1, by simp, Nat.le_refl _, Nat.le_refl _, hps.1⟩
  case round =>
    clear H0 H1 HN
    obtain ⟨p', st, acc, rfl, hS, hL, hB, hl, hk, hpp, hpt⟩ := hrel
    have HL := Lib.hid hL
    have HB := Lib.hid hB
    have HK := Lib.hid hk
    clear hk hL hB
    have hstep := hS.next
    clear hS
    rcases hstep with ⟨rfl, hc, hS⟩ | ⟨rfl, hc, hS⟩ | ⟨rfl, hc, hS⟩ | ⟨rfl, hc, hS⟩ | ⟨rfl, hc, hS⟩ | ⟨rfl, hc, hS⟩ | ⟨rfl, hc, hS⟩ | ⟨rfl, hc, hS⟩ | ⟨rfl, hc, hS⟩ | ⟨rfl, hc, hS⟩ | ⟨rfl, hc, hS⟩ | ⟨rfl, hc, hS⟩ | ⟨rfl, hc, hS⟩ | ⟨rfl, hc, hS⟩ | ⟨rfl, hc, hS⟩ | ⟨rfl, hc, hS⟩ | ⟨rfl, hc, hS⟩ | ⟨rfl, hc, hS⟩ | ⟨rfl, hc, hS⟩ | ⟨rfl, hc, hS⟩ | ⟨rfl, hc, hS⟩ | ⟨rfl, hc, hS⟩
    · as_aux_lemma =>
      obtain ⟨hr, hx, hlt⟩ := rv_low t p' (by omega)
      rw [hc] at hr
      clear hc
      have HX := Lib.hid hx
      have HS := Lib.hid hS
      have HR := Lib.hid hr
      clear hx hS hr
      go_wp2_with (first
        | (go_at_call 26; refine (peek_r HL.out HR.out).mono ?_; rintro e w2 ⟨rfl, hL2, hb2⟩)
        | (go_at_call 51; refine (write_buf hL2 _ (by omega) (by omega) (by have := HL.out.1.bounds; omega)).mono ?_; rintro e w3 ⟨⟨kk, rfl⟩, hL3, hb3⟩)
        | (go_at_call 27; refine (next_buf hL3).mono ?_; rintro e w4 ⟨rfl, hL4, hb4⟩))
      have hx := HX.out
      have hk' := HK.out
      go_roundg (gk - 1)
      case measure => omega
      case rel => exact ⟨p' + 1, 1, _, rfl, HS.out, by rw [← hx]; exact hL4, ((HB.out.trans hb2).trans hb3).trans hb4, by have := enc_len 48; simp; omega, by omega, by omega, by omega⟩
    · as_aux_lemma =>
      obtain ⟨hr, hx, hlt⟩ := rv_low t p' (by omega)
      have hc1 : (48 : Int) ≤ (ch t p' : Int) := by omega
      have hc2 : (ch t p' : Int) ≤ 57 := by omega
      have hc3 : (49 : Int) ≤ (ch t p' : Int) := by omega
      clear hc
      generalize (ch t p' : Int) = r at hr hc1 hc2 hc3
      have x46 : (r == 46) = false := by simp; omega
      have x101 : (r == 101) = false := by simp; omega
      have x69 : (r == 69) = false := by simp; omega
      have x95 : (r == 95) = false := by simp; omega
      have x43 : (r == 43) = false := by simp; omega
      have x45 : (r == 45) = false := by simp; omega
      have x48 : (r == 48) = false := by simp; omega
      have y95 : (r != 95) = true := by simp; omega
      have HX := Lib.hid hx
      have HS := Lib.hid hS
      have HR := Lib.hid hr
      clear hx hS hr
      go_wp2_with (first
        | (go_at_call 26; refine (peek_r HL.out HR.out).mono ?_; rintro e w2 ⟨rfl, hL2, hb2⟩)
        | (go_at_call 51; refine (write_buf hL2 _ (by omega) (by omega) (by have := HL.out.1.bounds; omega)).mono ?_; rintro e w3 ⟨⟨kk, rfl⟩, hL3, hb3⟩)
        | (go_at_call 27; refine (next_buf hL3).mono ?_; rintro e w4 ⟨rfl, hL4, hb4⟩))
      have hx := HX.out
      have hk' := HK.out
      go_roundg (gk - 1)
      case measure => omega
      case rel => exact ⟨p' + 1, 2, _, rfl, HS.out, by rw [← hx]; exact hL4, ((HB.out.trans hb2).trans hb3).trans hb4, by have := enc_len r; simp; omega, by omega, by omega, by omega⟩
    · as_aux_lemma =>
      obtain ⟨hr, hx, hlt⟩ := rv_low t p' (by omega)
      rw [hc] at hr
      clear hc
      have HX := Lib.hid hx
      have HS := Lib.hid hS
      have HR := Lib.hid hr
      clear hx hS hr
      go_wp2_with (first
        | (go_at_call 26; refine (peek_r HL.out HR.out).mono ?_; rintro e w2 ⟨rfl, hL2, hb2⟩)
        | (go_at_call 51; refine (write_buf hL2 _ (by omega) (by omega) (by have := HL.out.1.bounds; omega)).mono ?_; rintro e w3 ⟨⟨kk, rfl⟩, hL3, hb3⟩)
        | (go_at_call 27; refine (next_buf hL3).mono ?_; rintro e w4 ⟨rfl, hL4, hb4⟩))
      have hx := HX.out
      have hk' := HK.out
      go_roundg (gk - 1)
      case measure => omega
      case rel => exact ⟨p' + 1, 4, _, rfl, HS.out, by rw [← hx]; exact hL4, ((HB.out.trans hb2).trans hb3).trans hb4, by have := enc_len 46; simp; omega, by omega, by omega, by omega⟩
    · as_aux_lemma =>
      obtain ⟨hr, hx, hlt⟩ := rv_low t p' (by omega)
      rw [hc] at hr
      clear hc
      have HX := Lib.hid hx
      have HS := Lib.hid hS
      have HR := Lib.hid hr
      clear hx hS hr
      go_wp2_with (first
        | (go_at_call 26; refine (peek_r HL.out HR.out).mono ?_; rintro e w2 ⟨rfl, hL2, hb2⟩)
        | (go_at_call 51; refine (write_buf hL2 _ (by omega) (by omega) (by have := HL.out.1.bounds; omega)).mono ?_; rintro e w3 ⟨⟨kk, rfl⟩, hL3, hb3⟩)
        | (go_at_call 27; refine (next_buf hL3).mono ?_; rintro e w4 ⟨rfl, hL4, hb4⟩))
      have hx := HX.out
      have hk' := HK.out
      go_roundg (gk - 1)
      case measure => omega
      case rel => exact ⟨p' + 1, 7, _, rfl, HS.out, by rw [← hx]; exact hL4, ((HB.out.trans hb2).trans hb3).trans hb4, by have := enc_len 101; simp; omega, by omega, by omega, by omega⟩
    · as_aux_lemma =>
      obtain ⟨hr, hx, hlt⟩ := rv_low t p' (by omega)
      rw [hc] at hr
      clear hc
      have HX := Lib.hid hx
      have HS := Lib.hid hS
      have HR := Lib.hid hr
      clear hx hS hr
      go_wp2_with (first
        | (go_at_call 26; refine (peek_r HL.out HR.out).mono ?_; rintro e w2 ⟨rfl, hL2, hb2⟩)
        | (go_at_call 51; refine (write_buf hL2 _ (by omega) (by omega) (by have := HL.out.1.bounds; omega)).mono ?_; rintro e w3 ⟨⟨kk, rfl⟩, hL3, hb3⟩)
        | (go_at_call 27; refine (next_buf hL3).mono ?_; rintro e w4 ⟨rfl, hL4, hb4⟩))
      have hx := HX.out
      have hk' := HK.out
      go_roundg (gk - 1)
      case measure => omega
      case rel => exact ⟨p' + 1, 7, _, rfl, HS.out, by rw [← hx]; exact hL4, ((HB.out.trans hb2).trans hb3).trans hb4, by have := enc_len 69; simp; omega, by omega, by omega, by omega⟩
    · as_aux_lemma =>
      obtain rfl := hc
      obtain ⟨r, hr⟩ : ∃ r, rv t p' = r := ⟨_, rfl⟩
      have he : ¬ ifP r ∧ ¬ nuP r ∧ r ≠ 46 := by
        subst hr
        exact ⟨fun h => hS.1 ((if_of t p').1 h), fun h => hS.2.1 ((nu_of t p').1 h), fun h => hS.2.2 ((rv_eq t p' 46 (by omega)).1 h)⟩
      unfold ifP upP loP nuP at he
      have x46 : (r == 46) = false := by simp; omega
      have x101 : (r == 101) = false := by simp; omega
      have x69 : (r == 69) = false := by simp; omega
      have x95 : (r == 95) = false := by simp; omega
      have HR := Lib.hid hr
      clear hr hS
      by_cases h48 : 48 ≤ r
      · have h57 : ¬ r ≤ 57 := by omega
        clear he
        go_wp2_with (first
          | (go_at_call 26; refine (peek_r HL.out HR.out).mono ?_; rintro e w2 ⟨rfl, hL2, hb2⟩)
          | (go_at_call 52; refine (string_buf hL2).mono ?_; rintro e w3 ⟨rfl, hL3, hb3⟩)
          | (go_at_call 34; refine (emitFull_any B b t p' ts n m _ hL3.1 hn _ _ _ _).mono ?_; rintro e w4 ⟨rfl, hL4, hb4⟩)
          | (go_at_call 28; refine (reset_any B b t p' ts (n + 1) 0 _ hL4).mono ?_; rintro e w5 ⟨rfl, hL5, hg5⟩))
        try rw [Exit.noGoto_ret]
        go_ret
        exact ⟨rfl, hL5, (((HB.out.trans hb2).trans hb3).trans hb4).grown hg5 hL4.baseW (fun k hk => by cases hk; exact hL4.base)⟩
      · clear he
        go_wp2_with (first
          | (go_at_call 26; refine (peek_r HL.out HR.out).mono ?_; rintro e w2 ⟨rfl, hL2, hb2⟩)
          | (go_at_call 52; refine (string_buf hL2).mono ?_; rintro e w3 ⟨rfl, hL3, hb3⟩)
          | (go_at_call 34; refine (emitFull_any B b t p' ts n m _ hL3.1 hn _ _ _ _).mono ?_; rintro e w4 ⟨rfl, hL4, hb4⟩)
          | (go_at_call 28; refine (reset_any B b t p' ts (n + 1) 0 _ hL4).mono ?_; rintro e w5 ⟨rfl, hL5, hg5⟩))
        try rw [Exit.noGoto_ret]
        go_ret
        exact ⟨rfl, hL5, (((HB.out.trans hb2).trans hb3).trans hb4).grown hg5 hL4.baseW (fun k hk => by cases hk; exact hL4.base)⟩
    · as_aux_lemma =>
      obtain ⟨hr, hx, hlt⟩ := rv_low t p' (by omega)
      rw [hc] at hr
      clear hc
      have HX := Lib.hid hx
      have HS := Lib.hid hS
      have HR := Lib.hid hr
      clear hx hS hr
      go_wp2_with (first
        | (go_at_call 26; refine (peek_r HL.out HR.out).mono ?_; rintro e w2 ⟨rfl, hL2, hb2⟩)
        | (go_at_call 51; refine (write_buf hL2 _ (by omega) (by omega) (by have := HL.out.1.bounds; omega)).mono ?_; rintro e w3 ⟨⟨kk, rfl⟩, hL3, hb3⟩)
        | (go_at_call 27; refine (next_buf hL3).mono ?_; rintro e w4 ⟨rfl, hL4, hb4⟩))
      have hx := HX.out
      have hk' := HK.out
      go_roundg (gk - 1)
      case measure => omega
      case rel => exact ⟨p' + 1, 4, _, rfl, HS.out, by rw [← hx]; exact hL4, ((HB.out.trans hb2).trans hb3).trans hb4, by have := enc_len 46; simp; omega, by omega, by omega, by omega⟩
    · as_aux_lemma =>
      obtain ⟨hr, hx, hlt⟩ := rv_low t p' (by omega)
      rw [hc] at hr
      clear hc
      have HX := Lib.hid hx
      have HS := Lib.hid hS
      have HR := Lib.hid hr
      clear hx hS hr
      go_wp2_with (first
        | (go_at_call 26; refine (peek_r HL.out HR.out).mono ?_; rintro e w2 ⟨rfl, hL2, hb2⟩)
        | (go_at_call 51; refine (write_buf hL2 _ (by omega) (by omega) (by have := HL.out.1.bounds; omega)).mono ?_; rintro e w3 ⟨⟨kk, rfl⟩, hL3, hb3⟩)
        | (go_at_call 27; refine (next_buf hL3).mono ?_; rintro e w4 ⟨rfl, hL4, hb4⟩))
      have hx := HX.out
      have hk' := HK.out
      go_roundg (gk - 1)
      case measure => omega
      case rel => exact ⟨p' + 1, 7, _, rfl, HS.out, by rw [← hx]; exact hL4, ((HB.out.trans hb2).trans hb3).trans hb4, by have := enc_len 101; simp; omega, by omega, by omega, by omega⟩
    · as_aux_lemma =>
      obtain ⟨hr, hx, hlt⟩ := rv_low t p' (by omega)
      rw [hc] at hr
      clear hc
      have HX := Lib.hid hx
      have HS := Lib.hid hS
      have HR := Lib.hid hr
      clear hx hS hr
      go_wp2_with (first
        | (go_at_call 26; refine (peek_r HL.out HR.out).mono ?_; rintro e w2 ⟨rfl, hL2, hb2⟩)
        | (go_at_call 51; refine (write_buf hL2 _ (by omega) (by omega) (by have := HL.out.1.bounds; omega)).mono ?_; rintro e w3 ⟨⟨kk, rfl⟩, hL3, hb3⟩)
        | (go_at_call 27; refine (next_buf hL3).mono ?_; rintro e w4 ⟨rfl, hL4, hb4⟩))
      have hx := HX.out
      have hk' := HK.out
      go_roundg (gk - 1)
      case measure => omega
      case rel => exact ⟨p' + 1, 7, _, rfl, HS.out, by rw [← hx]; exact hL4, ((HB.out.trans hb2).trans hb3).trans hb4, by have := enc_len 69; simp; omega, by omega, by omega, by omega⟩
    · as_aux_lemma =>
      unfold Dg at hc
      obtain ⟨hr, hx, hlt⟩ := rv_low t p' (by omega)
      have hc1 : (48 : Int) ≤ (ch t p' : Int) := by omega
      have hc2 : (ch t p' : Int) ≤ 57 := by omega
      clear hc
      generalize (ch t p' : Int) = r at hr hc1 hc2
      have x46 : (r == 46) = false := by simp; omega
      have x101 : (r == 101) = false := by simp; omega
      have x69 : (r == 69) = false := by simp; omega
      have x95 : (r == 95) = false := by simp; omega
      have x43 : (r == 43) = false := by simp; omega
      have x45 : (r == 45) = false := by simp; omega
      have y95 : (r != 95) = true := by simp; omega
      have HX := Lib.hid hx
      have HS := Lib.hid hS
      have HR := Lib.hid hr
      clear hx hS hr
      go_wp2_with (first
        | (go_at_call 26; refine (peek_r HL.out HR.out).mono ?_; rintro e w2 ⟨rfl, hL2, hb2⟩)
        | (go_at_call 51; refine (write_buf hL2 _ (by omega) (by omega) (by have := HL.out.1.bounds; omega)).mono ?_; rintro e w3 ⟨⟨kk, rfl⟩, hL3, hb3⟩)
        | (go_at_call 27; refine (next_buf hL3).mono ?_; rintro e w4 ⟨rfl, hL4, hb4⟩))
      have hx := HX.out
      have hk' := HK.out
      go_roundg (gk - 1)
      case measure => omega
      case rel => exact ⟨p' + 1, 2, _, rfl, HS.out, by rw [← hx]; exact hL4, ((HB.out.trans hb2).trans hb3).trans hb4, by have := enc_len r; simp; omega, by omega, by omega, by omega⟩
    · as_aux_lemma =>
      obtain rfl := hc
      obtain ⟨r, hr⟩ : ∃ r, rv t p' = r := ⟨_, rfl⟩
      have he : ¬ ifP r ∧ ¬ nuP r ∧ r ≠ 46 := by
        subst hr
        exact ⟨fun h => hS.1 ((if_of t p').1 h), fun h => hS.2.1 ((nu_of t p').1 h), fun h => hS.2.2 ((rv_eq t p' 46 (by omega)).1 h)⟩
      unfold ifP upP loP nuP at he
      have x46 : (r == 46) = false := by simp; omega
      have x101 : (r == 101) = false := by simp; omega
      have x69 : (r == 69) = false := by simp; omega
      have x95 : (r == 95) = false := by simp; omega
      have HR := Lib.hid hr
      clear hr hS
      by_cases h48 : 48 ≤ r
      · have h57 : ¬ r ≤ 57 := by omega
        clear he
        go_wp2_with (first
          | (go_at_call 26; refine (peek_r HL.out HR.out).mono ?_; rintro e w2 ⟨rfl, hL2, hb2⟩)
          | (go_at_call 52; refine (string_buf hL2).mono ?_; rintro e w3 ⟨rfl, hL3, hb3⟩)
          | (go_at_call 34; refine (emitFull_any B b t p' ts n m _ hL3.1 hn _ _ _ _).mono ?_; rintro e w4 ⟨rfl, hL4, hb4⟩)
          | (go_at_call 28; refine (reset_any B b t p' ts (n + 1) 0 _ hL4).mono ?_; rintro e w5 ⟨rfl, hL5, hg5⟩))
        try rw [Exit.noGoto_ret]
        go_ret
        exact ⟨rfl, hL5, (((HB.out.trans hb2).trans hb3).trans hb4).grown hg5 hL4.baseW (fun k hk => by cases hk; exact hL4.base)⟩
      · clear he
        go_wp2_with (first
          | (go_at_call 26; refine (peek_r HL.out HR.out).mono ?_; rintro e w2 ⟨rfl, hL2, hb2⟩)
          | (go_at_call 52; refine (string_buf hL2).mono ?_; rintro e w3 ⟨rfl, hL3, hb3⟩)
          | (go_at_call 34; refine (emitFull_any B b t p' ts n m _ hL3.1 hn _ _ _ _).mono ?_; rintro e w4 ⟨rfl, hL4, hb4⟩)
          | (go_at_call 28; refine (reset_any B b t p' ts (n + 1) 0 _ hL4).mono ?_; rintro e w5 ⟨rfl, hL5, hg5⟩))
        try rw [Exit.noGoto_ret]
        go_ret
        exact ⟨rfl, hL5, (((HB.out.trans hb2).trans hb3).trans hb4).grown hg5 hL4.baseW (fun k hk => by cases hk; exact hL4.base)⟩
    · as_aux_lemma =>
      unfold Dg at hc
      obtain ⟨hr, hx, hlt⟩ := rv_low t p' (by omega)
      have hc1 : (48 : Int) ≤ (ch t p' : Int) := by omega
      have hc2 : (ch t p' : Int) ≤ 57 := by omega
      clear hc
      generalize (ch t p' : Int) = r at hr hc1 hc2
      have x46 : (r == 46) = false := by simp; omega
      have x101 : (r == 101) = false := by simp; omega
      have x69 : (r == 69) = false := by simp; omega
      have x95 : (r == 95) = false := by simp; omega
      have x43 : (r == 43) = false := by simp; omega
      have x45 : (r == 45) = false := by simp; omega
      have y95 : (r != 95) = true := by simp; omega
      have HX := Lib.hid hx
      have HS := Lib.hid hS
      have HR := Lib.hid hr
      clear hx hS hr
      go_wp2_with (first
        | (go_at_call 26; refine (peek_r HL.out HR.out).mono ?_; rintro e w2 ⟨rfl, hL2, hb2⟩)
        | (go_at_call 51; refine (write_buf hL2 _ (by omega) (by omega) (by have := HL.out.1.bounds; omega)).mono ?_; rintro e w3 ⟨⟨kk, rfl⟩, hL3, hb3⟩)
        | (go_at_call 27; refine (next_buf hL3).mono ?_; rintro e w4 ⟨rfl, hL4, hb4⟩))
      have hx := HX.out
      have hk' := HK.out
      go_roundg (gk - 1)
      case measure => omega
      case rel => exact ⟨p' + 1, 5, _, rfl, HS.out, by rw [← hx]; exact hL4, ((HB.out.trans hb2).trans hb3).trans hb4, by have := enc_len r; simp; omega, by omega, by omega, by omega⟩
    · as_aux_lemma =>
      obtain ⟨hr, hx, hlt⟩ := rv_low t p' (by omega)
      rw [hc] at hr
      clear hc
      have HX := Lib.hid hx
      have HS := Lib.hid hS
      have HR := Lib.hid hr
      clear hx hS hr
      go_wp2_with (first
        | (go_at_call 26; refine (peek_r HL.out HR.out).mono ?_; rintro e w2 ⟨rfl, hL2, hb2⟩)
        | (go_at_call 51; refine (write_buf hL2 _ (by omega) (by omega) (by have := HL.out.1.bounds; omega)).mono ?_; rintro e w3 ⟨⟨kk, rfl⟩, hL3, hb3⟩)
        | (go_at_call 27; refine (next_buf hL3).mono ?_; rintro e w4 ⟨rfl, hL4, hb4⟩))
      have hx := HX.out
      have hk' := HK.out
      go_roundg (gk - 1)
      case measure => omega
      case rel => exact ⟨p' + 1, 7, _, rfl, HS.out, by rw [← hx]; exact hL4, ((HB.out.trans hb2).trans hb3).trans hb4, by have := enc_len 101; simp; omega, by omega, by omega, by omega⟩
    · as_aux_lemma =>
      obtain ⟨hr, hx, hlt⟩ := rv_low t p' (by omega)
      rw [hc] at hr
      clear hc
      have HX := Lib.hid hx
      have HS := Lib.hid hS
      have HR := Lib.hid hr
      clear hx hS hr
      go_wp2_with (first
        | (go_at_call 26; refine (peek_r HL.out HR.out).mono ?_; rintro e w2 ⟨rfl, hL2, hb2⟩)
        | (go_at_call 51; refine (write_buf hL2 _ (by omega) (by omega) (by have := HL.out.1.bounds; omega)).mono ?_; rintro e w3 ⟨⟨kk, rfl⟩, hL3, hb3⟩)
        | (go_at_call 27; refine (next_buf hL3).mono ?_; rintro e w4 ⟨rfl, hL4, hb4⟩))
      have hx := HX.out
      have hk' := HK.out
      go_roundg (gk - 1)
      case measure => omega
      case rel => exact ⟨p' + 1, 7, _, rfl, HS.out, by rw [← hx]; exact hL4, ((HB.out.trans hb2).trans hb3).trans hb4, by have := enc_len 69; simp; omega, by omega, by omega, by omega⟩
    · as_aux_lemma =>
      unfold Dg at hc
      obtain ⟨hr, hx, hlt⟩ := rv_low t p' (by omega)
      have hc1 : (48 : Int) ≤ (ch t p' : Int) := by omega
      have hc2 : (ch t p' : Int) ≤ 57 := by omega
      clear hc
      generalize (ch t p' : Int) = r at hr hc1 hc2
      have x46 : (r == 46) = false := by simp; omega
      have x101 : (r == 101) = false := by simp; omega
      have x69 : (r == 69) = false := by simp; omega
      have x95 : (r == 95) = false := by simp; omega
      have x43 : (r == 43) = false := by simp; omega
      have x45 : (r == 45) = false := by simp; omega
      have y95 : (r != 95) = true := by simp; omega
      have HX := Lib.hid hx
      have HS := Lib.hid hS
      have HR := Lib.hid hr
      clear hx hS hr
      go_wp2_with (first
        | (go_at_call 26; refine (peek_r HL.out HR.out).mono ?_; rintro e w2 ⟨rfl, hL2, hb2⟩)
        | (go_at_call 51; refine (write_buf hL2 _ (by omega) (by omega) (by have := HL.out.1.bounds; omega)).mono ?_; rintro e w3 ⟨⟨kk, rfl⟩, hL3, hb3⟩)
        | (go_at_call 27; refine (next_buf hL3).mono ?_; rintro e w4 ⟨rfl, hL4, hb4⟩))
      have hx := HX.out
      have hk' := HK.out
      go_roundg (gk - 1)
      case measure => omega
      case rel => exact ⟨p' + 1, 5, _, rfl, HS.out, by rw [← hx]; exact hL4, ((HB.out.trans hb2).trans hb3).trans hb4, by have := enc_len r; simp; omega, by omega, by omega, by omega⟩
    · as_aux_lemma =>
      obtain rfl := hc
      obtain ⟨r, hr⟩ : ∃ r, rv t p' = r := ⟨_, rfl⟩
      have he : ¬ ifP r ∧ ¬ nuP r ∧ r ≠ 46 := by
        subst hr
        exact ⟨fun h => hS.1 ((if_of t p').1 h), fun h => hS.2.1 ((nu_of t p').1 h), fun h => hS.2.2 ((rv_eq t p' 46 (by omega)).1 h)⟩
      unfold ifP upP loP nuP at he
      have x46 : (r == 46) = false := by simp; omega
      have x101 : (r == 101) = false := by simp; omega
      have x69 : (r == 69) = false := by simp; omega
      have x95 : (r == 95) = false := by simp; omega
      have HR := Lib.hid hr
      clear hr hS
      by_cases h48 : 48 ≤ r
      · have h57 : ¬ r ≤ 57 := by omega
        clear he
        go_wp2_with (first
          | (go_at_call 26; refine (peek_r HL.out HR.out).mono ?_; rintro e w2 ⟨rfl, hL2, hb2⟩)
          | (go_at_call 52; refine (string_buf hL2).mono ?_; rintro e w3 ⟨rfl, hL3, hb3⟩)
          | (go_at_call 34; refine (emitFull_any B b t p' ts n m _ hL3.1 hn _ _ _ _).mono ?_; rintro e w4 ⟨rfl, hL4, hb4⟩)
          | (go_at_call 28; refine (reset_any B b t p' ts (n + 1) 0 _ hL4).mono ?_; rintro e w5 ⟨rfl, hL5, hg5⟩))
        try rw [Exit.noGoto_ret]
        go_ret
        exact ⟨rfl, hL5, (((HB.out.trans hb2).trans hb3).trans hb4).grown hg5 hL4.baseW (fun k hk => by cases hk; exact hL4.base)⟩
      · clear he
        go_wp2_with (first
          | (go_at_call 26; refine (peek_r HL.out HR.out).mono ?_; rintro e w2 ⟨rfl, hL2, hb2⟩)
          | (go_at_call 52; refine (string_buf hL2).mono ?_; rintro e w3 ⟨rfl, hL3, hb3⟩)
          | (go_at_call 34; refine (emitFull_any B b t p' ts n m _ hL3.1 hn _ _ _ _).mono ?_; rintro e w4 ⟨rfl, hL4, hb4⟩)
          | (go_at_call 28; refine (reset_any B b t p' ts (n + 1) 0 _ hL4).mono ?_; rintro e w5 ⟨rfl, hL5, hg5⟩))
        try rw [Exit.noGoto_ret]
        go_ret
        exact ⟨rfl, hL5, (((HB.out.trans hb2).trans hb3).trans hb4).grown hg5 hL4.baseW (fun k hk => by cases hk; exact hL4.base)⟩
    · as_aux_lemma =>
      obtain ⟨hr, hx, hlt⟩ := rv_low t p' (by omega)
      rw [hc] at hr
      clear hc
      have HX := Lib.hid hx
      have HS := Lib.hid hS
      have HR := Lib.hid hr
      clear hx hS hr
      go_wp2_with (first
        | (go_at_call 26; refine (peek_r HL.out HR.out).mono ?_; rintro e w2 ⟨rfl, hL2, hb2⟩)
        | (go_at_call 51; refine (write_buf hL2 _ (by omega) (by omega) (by have := HL.out.1.bounds; omega)).mono ?_; rintro e w3 ⟨⟨kk, rfl⟩, hL3, hb3⟩)
        | (go_at_call 27; refine (next_buf hL3).mono ?_; rintro e w4 ⟨rfl, hL4, hb4⟩))
      have hx := HX.out
      have hk' := HK.out
      go_roundg (gk - 1)
      case measure => omega
      case rel => exact ⟨p' + 1, 8, _, rfl, HS.out, by rw [← hx]; exact hL4, ((HB.out.trans hb2).trans hb3).trans hb4, by have := enc_len 43; simp; omega, by omega, by omega, by omega⟩
    · as_aux_lemma =>
      obtain ⟨hr, hx, hlt⟩ := rv_low t p' (by omega)
      rw [hc] at hr
      clear hc
      have HX := Lib.hid hx
      have HS := Lib.hid hS
      have HR := Lib.hid hr
      clear hx hS hr
      go_wp2_with (first
        | (go_at_call 26; refine (peek_r HL.out HR.out).mono ?_; rintro e w2 ⟨rfl, hL2, hb2⟩)
        | (go_at_call 51; refine (write_buf hL2 _ (by omega) (by omega) (by have := HL.out.1.bounds; omega)).mono ?_; rintro e w3 ⟨⟨kk, rfl⟩, hL3, hb3⟩)
        | (go_at_call 27; refine (next_buf hL3).mono ?_; rintro e w4 ⟨rfl, hL4, hb4⟩))
      have hx := HX.out
      have hk' := HK.out
      go_roundg (gk - 1)
      case measure => omega
      case rel => exact ⟨p' + 1, 8, _, rfl, HS.out, by rw [← hx]; exact hL4, ((HB.out.trans hb2).trans hb3).trans hb4, by have := enc_len 45; simp; omega, by omega, by omega, by omega⟩
    · as_aux_lemma =>
      unfold Dg at hc
      obtain ⟨hr, hx, hlt⟩ := rv_low t p' (by omega)
      have hc1 : (48 : Int) ≤ (ch t p' : Int) := by omega
      have hc2 : (ch t p' : Int) ≤ 57 := by omega
      clear hc
      generalize (ch t p' : Int) = r at hr hc1 hc2
      have x46 : (r == 46) = false := by simp; omega
      have x101 : (r == 101) = false := by simp; omega
      have x69 : (r == 69) = false := by simp; omega
      have x95 : (r == 95) = false := by simp; omega
      have x43 : (r == 43) = false := by simp; omega
      have x45 : (r == 45) = false := by simp; omega
      have y95 : (r != 95) = true := by simp; omega
      have HX := Lib.hid hx
      have HS := Lib.hid hS
      have HR := Lib.hid hr
      clear hx hS hr
      go_wp2_with (first
        | (go_at_call 26; refine (peek_r HL.out HR.out).mono ?_; rintro e w2 ⟨rfl, hL2, hb2⟩)
        | (go_at_call 51; refine (write_buf hL2 _ (by omega) (by omega) (by have := HL.out.1.bounds; omega)).mono ?_; rintro e w3 ⟨⟨kk, rfl⟩, hL3, hb3⟩)
        | (go_at_call 27; refine (next_buf hL3).mono ?_; rintro e w4 ⟨rfl, hL4, hb4⟩))
      have hx := HX.out
      have hk' := HK.out
      go_roundg (gk - 1)
      case measure => omega
      case rel => exact ⟨p' + 1, 9, _, rfl, HS.out, by rw [← hx]; exact hL4, ((HB.out.trans hb2).trans hb3).trans hb4, by have := enc_len r; simp; omega, by omega, by omega, by omega⟩
    · as_aux_lemma =>
      unfold Dg at hc
      obtain ⟨hr, hx, hlt⟩ := rv_low t p' (by omega)
      have hc1 : (48 : Int) ≤ (ch t p' : Int) := by omega
      have hc2 : (ch t p' : Int) ≤ 57 := by omega
      clear hc
      generalize (ch t p' : Int) = r at hr hc1 hc2
      have x46 : (r == 46) = false := by simp; omega
      have x101 : (r == 101) = false := by simp; omega
      have x69 : (r == 69) = false := by simp; omega
      have x95 : (r == 95) = false := by simp; omega
      have x43 : (r == 43) = false := by simp; omega
      have x45 : (r == 45) = false := by simp; omega
      have y95 : (r != 95) = true := by simp; omega
      have HX := Lib.hid hx
      have HS := Lib.hid hS
      have HR := Lib.hid hr
      clear hx hS hr
      go_wp2_with (first
        | (go_at_call 26; refine (peek_r HL.out HR.out).mono ?_; rintro e w2 ⟨rfl, hL2, hb2⟩)
        | (go_at_call 51; refine (write_buf hL2 _ (by omega) (by omega) (by have := HL.out.1.bounds; omega)).mono ?_; rintro e w3 ⟨⟨kk, rfl⟩, hL3, hb3⟩)
        | (go_at_call 27; refine (next_buf hL3).mono ?_; rintro e w4 ⟨rfl, hL4, hb4⟩))
      have hx := HX.out
      have hk' := HK.out
      go_roundg (gk - 1)
      case measure => omega
      case rel => exact ⟨p' + 1, 9, _, rfl, HS.out, by rw [← hx]; exact hL4, ((HB.out.trans hb2).trans hb3).trans hb4, by have := enc_len r; simp; omega, by omega, by omega, by omega⟩
    · as_aux_lemma =>
      unfold Dg at hc
      obtain ⟨hr, hx, hlt⟩ := rv_low t p' (by omega)
      have hc1 : (48 : Int) ≤ (ch t p' : Int) := by omega
      have hc2 : (ch t p' : Int) ≤ 57 := by omega
      clear hc
      generalize (ch t p' : Int) = r at hr hc1 hc2
      have x46 : (r == 46) = false := by simp; omega
      have x101 : (r == 101) = false := by simp; omega
      have x69 : (r == 69) = false := by simp; omega
      have x95 : (r == 95) = false := by simp; omega
      have x43 : (r == 43) = false := by simp; omega
      have x45 : (r == 45) = false := by simp; omega
      have y95 : (r != 95) = true := by simp; omega
      have HX := Lib.hid hx
      have HS := Lib.hid hS
      have HR := Lib.hid hr
      clear hx hS hr
      go_wp2_with (first
        | (go_at_call 26; refine (peek_r HL.out HR.out).mono ?_; rintro e w2 ⟨rfl, hL2, hb2⟩)
        | (go_at_call 51; refine (write_buf hL2 _ (by omega) (by omega) (by have := HL.out.1.bounds; omega)).mono ?_; rintro e w3 ⟨⟨kk, rfl⟩, hL3, hb3⟩)
        | (go_at_call 27; refine (next_buf hL3).mono ?_; rintro e w4 ⟨rfl, hL4, hb4⟩))
      have hx := HX.out
      have hk' := HK.out
      go_roundg (gk - 1)
      case measure => omega
      case rel => exact ⟨p' + 1, 9, _, rfl, HS.out, by rw [← hx]; exact hL4, ((HB.out.trans hb2).trans hb3).trans hb4, by have := enc_len r; simp; omega, by omega, by omega, by omega⟩
    · as_aux_lemma =>
      obtain rfl := hc
      obtain ⟨r, hr⟩ : ∃ r, rv t p' = r := ⟨_, rfl⟩
      have he : ¬ ifP r ∧ ¬ nuP r ∧ r ≠ 46 := by
        subst hr
        exact ⟨fun h => hS.1 ((if_of t p').1 h), fun h => hS.2.1 ((nu_of t p').1 h), fun h => hS.2.2 ((rv_eq t p' 46 (by omega)).1 h)⟩
      unfold ifP upP loP nuP at he
      have x46 : (r == 46) = false := by simp; omega
      have x101 : (r == 101) = false := by simp; omega
      have x69 : (r == 69) = false := by simp; omega
      have x95 : (r == 95) = false := by simp; omega
      have HR := Lib.hid hr
      clear hr hS
      by_cases h48 : 48 ≤ r
      · have h57 : ¬ r ≤ 57 := by omega
        clear he
        go_wp2_with (first
          | (go_at_call 26; refine (peek_r HL.out HR.out).mono ?_; rintro e w2 ⟨rfl, hL2, hb2⟩)
          | (go_at_call 52; refine (string_buf hL2).mono ?_; rintro e w3 ⟨rfl, hL3, hb3⟩)
          | (go_at_call 34; refine (emitFull_any B b t p' ts n m _ hL3.1 hn _ _ _ _).mono ?_; rintro e w4 ⟨rfl, hL4, hb4⟩)
          | (go_at_call 28; refine (reset_any B b t p' ts (n + 1) 0 _ hL4).mono ?_; rintro e w5 ⟨rfl, hL5, hg5⟩))
        try rw [Exit.noGoto_ret]
        go_ret
        exact ⟨rfl, hL5, (((HB.out.trans hb2).trans hb3).trans hb4).grown hg5 hL4.baseW (fun k hk => by cases hk; exact hL4.base)⟩
      · clear he
        go_wp2_with (first
          | (go_at_call 26; refine (peek_r HL.out HR.out).mono ?_; rintro e w2 ⟨rfl, hL2, hb2⟩)
          | (go_at_call 52; refine (string_buf hL2).mono ?_; rintro e w3 ⟨rfl, hL3, hb3⟩)
          | (go_at_call 34; refine (emitFull_any B b t p' ts n m _ hL3.1 hn _ _ _ _).mono ?_; rintro e w4 ⟨rfl, hL4, hb4⟩)
          | (go_at_call 28; refine (reset_any B b t p' ts (n + 1) 0 _ hL4).mono ?_; rintro e w5 ⟨rfl, hL5, hg5⟩))
        try rw [Exit.noGoto_ret]
        go_ret
        exact ⟨rfl, hL5, (((HB.out.trans hb2).trans hb3).trans hb4).grown hg5 hL4.baseW (fun k hk => by cases hk; exact hL4.base)⟩

end Go.Proofs.YtjjmgnllhihoeaaGreatFmt
