/- White space; a piece of fodder put on safely; n runes skipped. -/
import Derived.Test.YtjjmgnllhihoeaaGreatFmtFodB
import Derived.Deep.LoopGhost
set_option linter.unusedSimpArgs false
set_option linter.unusedVariables false
namespace Go.Proofs.YtjjmgnllhihoeaaGreatFmt
open Go.RowKit
attribute [local go_sem ↓] Go.wp_at_zero Go.wp_at_succ

set_option maxRecDepth 100000 in
set_option maxHeartbeats 3200000 in
theorem addFodderSafe_any (B b : Nat) (t : ByteArray) (p ts n m : Nat) (w : World) (h : LexI B b t p ts n m w) (hm : m ≤ 999990) (bl ind : Int) (a : Option Addr) (q c : Nat) (hq : 0 < q) :
    Calls Tryz.prog 63 #[.pointer (some ⟨b, 0, none⟩), .int .i64 2, .int .i64 bl, .int .i64 ind, .slice a q c] w (SafeP B b t p ts n m w) := by
  have hlt := h.lt
  have hB := h.base
  have H0 := Lib.hid h
  clear h
  go_enter Tryz.func63, Tryz.ntmps63
  go_wp2_with (go_at_call 50; refine (makeFodder_any 2 bl ind a q c _ (.inr (.inr ⟨rfl, hq⟩))).mono ?_; rintro e w1 ⟨rfl, hb1⟩)
  have hW : Below w.heap.size w (w1.alloc (.cells #[.slice a q c, .int .i64 2, .int .i64 bl, .int .i64 ind] 84)) := hb1.trans ((Below.refl _ w1).alloc hb1.size _)
  have hb0 := (heap_alloc_new w1 (.cells #[.slice a q c, .int .i64 2, .int .i64 bl, .int .i64 ind] 84))
  have hsz := hb1.size
  generalize w1.alloc (.cells #[.slice a q c, .int .i64 2, .int .i64 bl, .int .i64 ind] 84) = W at hW hb0 ⊢
  generalize w1.heap.size = h at hb0 hsz ⊢
  refine wp_region_held_tail 4 4 (fun w' => w'.heap[h]? = some (.cells #[.slice a q c, .int .i64 2, .int .i64 bl, .int .i64 ind] 84 (0, 0))) (by kernel_rfl) (by kernel_rfl) (by intro c a' d' v' w' h'; cases d' <;> exact h') hb0 ?_
  simp only [List.take_succ_cons, List.take_zero, List.drop_succ_cons, List.drop_zero]
  iterate 4
    refine wpHeld_cons ?_ (by rfl) (fun w' q2 => ?_) ?_
    rotate_left 1
    · have z0 : w'.cell? ⟨h, 0, none⟩ = some (.slice a q c) := by simp [World.cell?, q2]
      have z1 : w'.cell? ⟨h, 1, none⟩ = some (.int .i64 2) := by simp [World.cell?, q2]
      have z2 : w'.cell? ⟨h, 2, none⟩ = some (.int .i64 bl) := by simp [World.cell?, q2]
      have z3 : w'.cell? ⟨h, 3, none⟩ = some (.int .i64 ind) := by simp [World.cell?, q2]
      go_simp
      try with_reducible rfl
    simp only [Act.put, List.setIfInBounds_toArray, List.set_cons_zero, List.set_cons_succ]
  refine wpHeld_nil ?_
  refine wpMid_nil ?_
  have H1 := Lib.hid (H0.out.old hW)
  go_wp2_with (go_at_call 81; refine (append_any B b t p ts n m _ ?_ hm bl ind a q c hq).mono ?_; exact LexI.old H1.out ⟨rfl, rfl, rfl, Nat.le_refl _, fun _ _ => rfl⟩; rintro e w3 ⟨rfl, hx3, hb3⟩)
  go_end0
  exact ⟨rfl, hx3, (hW.mono (Nat.le_of_lt (Nat.lt_of_le_of_lt hB hlt))).trans ⟨hb3.os, hb3.tape, hb3.output, hb3.size, hb3.block⟩⟩

theorem ws_of (s : ByteArray) (p : Nat) : wsP (rv s p) ↔ Ws (ch s p) := by
  unfold wsP hwP Ws
  rw [show (rv s p = 10) ↔ ch s p = 10 from rv_eq s p 10 (by omega), show (rv s p = 32) ↔ ch s p = 32 from rv_eq s p 32 (by omega), show (rv s p = 9) ↔ ch s p = 9 from rv_eq s p 9 (by omega), show (rv s p = 13) ↔ ch s p = 13 from rv_eq s p 13 (by omega)]
  omega

theorem Below.grownB {b : Nat} {w w' : World} (h : Below w.heap.size w w') : w.grownBy w' (some b) := ⟨h.os, h.tape, h.output, h.size, fun k hk _ => h.block k hk⟩

/-- White space, to its end. -/
def WhiteP (B b : Nat) (t : ByteArray) (p ts n m : Nat) (w : World) (e : Ending) (w' : World) : Prop :=
  ∃ (p' : Nat) (nl ind : Int), e = .returned (.tuple #[.int .i64 nl, .int .i64 ind]) ∧ LexI B b t p' ts n m w' ∧ w.grownBy w' (some b) ∧ p ≤ p' ∧ (∀ j, p ≤ j → j < p' → Ws (ch t j)) ∧ ¬ Ws (ch t p')

set_option maxHeartbeats 6400000 in
theorem lexWhite_any (B b : Nat) (t : ByteArray) (p ts n m : Nat) (w : World) (h : LexI B b t p ts n m w) :
    Calls Tryz.prog 25 #[.pointer (some ⟨b, 0, none⟩)] w (WhiteP B b t p ts n m w) := by
  have H0 := Lib.hid h
  clear h
  go_enter Tryz.func25, Tryz.ntmps25
  go_wp2_with (go_at_call 26; refine (peek_any B b t p ts n m _ H0.out).mono ?_; rintro e w1 ⟨rfl, hL1, hb1⟩)
  go_loopg [4, 5, 6] (t.size - p) (fun k x4 x5 x6 wr => ∃ (p' : Nat) (ind nl : Int), x4 = .int .i32 (rv t p') ∧ x5 = .int .i64 ind ∧ x6 = .int .i64 nl ∧ t.size - p' ≤ k ∧ LexI B b t p' ts n m wr ∧ w.grownBy wr (some b) ∧ p ≤ p' ∧ ∀ j, p ≤ j → j < p' → Ws (ch t j))
  case atStart => exact ⟨p, 0, 0, rfl, rfl, rfl, Nat.le_refl _, hL1, Below.grownB hb1, Nat.le_refl _, fun j h1 h2 => absurd h2 (by omega)⟩
  case round =>
    clear hL1 hb1
    obtain ⟨p', ind, nl, rfl, rfl, rfl, hk, hL, hG, hpp, hW⟩ := hrel
    have HK := Lib.hid hk
    have HL := Lib.hid hL
    have HG := Lib.hid hG
    have HW := Lib.hid hW
    clear hk hL hG hW
    by_cases hws : Ws (ch t p')
    · obtain ⟨hr, hn, hlt⟩ := rv_low t p' (by unfold Ws at hws; omega)
      have HN := Lib.hid hn
      clear hn
      have hwb : wsB (ch t p' : Int) = true := by
        rw [← hr]; simp [wsB]; exact (ws_of t p').2 hws
      rw [hr]
      clear hr
      have HC := Lib.hid hws
      generalize ch t p' = c at hws hwb ⊢
      rcases hws with rfl | rfl | rfl | rfl
      all_goals
        go_wp2_with (first
          | (go_at_call 48; refine (isWS_any _ _).mono ?_; rintro e w2 ⟨rfl, rfl⟩)
          | (go_at_call 27; refine (next_any B b t p' ts n m _ HL.out).mono ?_; rintro e w3 ⟨rfl, hL3, hg3⟩)
          | (go_at_call 26; refine (peek_any B b t (nx t p') ts n m _ hL3).mono ?_; rintro e w4 ⟨rfl, hL4, hb4⟩))
      all_goals
        have hnx : nx t p' = p' + 1 := HN.out
        have hk' := HK.out
        go_roundg (t.size - (p' + 1))
        case measure => omega
        case rel =>
          refine ⟨p' + 1, _, _, by rw [← hnx], rfl, rfl, Nat.le_refl _, by rw [← hnx]; exact LexI.old hL4 (Below.refl _ _), ?_, by omega, ?_⟩
          · exact (HG.out.trans hg3).trans (Below.grownB hb4)
          · intro j h1 h2
            by_cases h3 : j < p'
            · exact HW.out j h1 h3
            · rw [show j = p' by omega]; exact HC.out
    · have hwb : wsB (rv t p') = false := by simp [wsB]; intro h; exact hws ((ws_of t p').1 h)
      have HC := Lib.hid hws
      clear hws
      generalize rv t p' = r at hwb ⊢
      go_wp2_with (first
          | (go_at_call 48; refine (isWS_any _ _).mono ?_; rintro e w2 ⟨rfl, rfl⟩))
      go_ret2
      exact ⟨p', nl, ind, rfl, HL.out, HG.out, hpp, HW.out, HC.out⟩

/-- The place is q on. -/
def SkipP (B b : Nat) (t : ByteArray) (p ts n m : Nat) (w : World) (e : Ending) (w' : World) : Prop :=
  e = .returned (.tuple #[]) ∧ LexI B b t p ts n m w' ∧ w.grownBy w' (some b)

set_option maxHeartbeats 6400000 in
theorem acceptN_any (B b : Nat) (t : ByteArray) (p q ts n m : Nat) (w : World) (h : LexI B b t p ts n m w) (hq : ∀ j, p ≤ j → j < p + q → ch t j < 128) (hqs : q ≤ 1000000) :
    Calls Tryz.prog 65 #[.pointer (some ⟨b, 0, none⟩), .int .i64 q] w (SkipP B b t (p + q) ts n m w) := by
  have H0 := Lib.hid h
  have HQ := Lib.hid hq
  clear h hq
  go_enter Tryz.func65, Tryz.ntmps65
  go_wp2_with fail
  go_loopg [4] q (fun k x4 wr => ∃ i : Nat, x4 = .int .i64 i ∧ i + k = q ∧ LexI B b t (p + i) ts n m wr ∧ w.grownBy wr (some b))
  case atStart => exact ⟨0, rfl, by omega, H0.out, Below.grownB (Below.refl _ _)⟩
  case round =>
    obtain ⟨i, rfl, hk, hL, hG⟩ := hrel
    have HL := Lib.hid hL
    have HG := Lib.hid hG
    clear hL hG
    by_cases hi : i < q
    · have hn := (rv_low t (p + i) (HQ.out _ (by omega) (by omega))).2.1
      have HN := Lib.hid hn
      have HK := Lib.hid hk
      clear hn hk
      go_wp2_with (first
          | (go_at_call 27; refine (next_any B b t (p + i) ts n m _ HL.out).mono ?_; rintro e w3 ⟨rfl, hL3, hg3⟩))
      have hk' := HK.out
      go_roundg (gk - 1)
      case measure => omega
      case rel => exact ⟨i + 1, by go_num, by omega, by rw [← Nat.add_assoc, ← HN.out]; exact hL3, HG.out.trans hg3⟩
    · have hiq : i = q := by omega
      have HI := Lib.hid hiq
      clear hiq hk
      go_wp2_with fail
      go_end0
      exact ⟨rfl, by rw [← HI.out]; exact HL.out, HG.out⟩

theorem if_of (s : ByteArray) (p : Nat) : ifP (rv s p) ↔ Lt (ch s p) := by
  unfold ifP upP loP Lt
  by_cases h : ch s p < 128
  · rw [(rv_low s p h).1]; omega
  · have h1 := rv_range s p
    by_cases hp : p < s.size
    · have h2 := (rv_high s p hp (by omega)).1
      omega
    · rw [(rv_end s p (by omega)).1, ch_out s p (by omega)]; omega

theorem nu_of (s : ByteArray) (p : Nat) : nuP (rv s p) ↔ Dg (ch s p) := by
  unfold nuP Dg
  by_cases h : ch s p < 128
  · rw [(rv_low s p h).1]; omega
  · by_cases hp : p < s.size
    · have h2 := (rv_high s p hp (by omega)).1
      omega
    · rw [(rv_end s p (by omega)).1, ch_out s p (by omega)]; omega

theorem id_of (s : ByteArray) (p : Nat) : idP (rv s p) ↔ Lt (ch s p) ∨ Dg (ch s p) := by
  unfold idP
  rw [if_of, nu_of]

/-- Some number: the kind of a word. -/
def KindP (w : World) (e : Ending) (w' : World) : Prop := ∃ k : Int, e = .returned (.int .i64 k) ∧ w = w'

set_option maxHeartbeats 6400000 in
theorem getKind_any (s : ByteArray) (w : World) : Calls Tryz.prog 59 #[.string s] w (KindP w) := by
  go_enter Tryz.func59, Tryz.ntmps59
  go_wp2_with fail
  all_goals
    refine bodyPost_ret (v := .int .i64 _) (by simp [results, Tryz.results59, go_sem]; rfl) rfl ⟨_, rfl, rfl⟩

end Go.Proofs.YtjjmgnllhihoeaaGreatFmt
