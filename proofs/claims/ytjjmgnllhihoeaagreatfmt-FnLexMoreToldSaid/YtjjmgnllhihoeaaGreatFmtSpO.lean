/- The reference's lexer: one step. -/
import Derived.Test.YtjjmgnllhihoeaaGreatFmtSpB
import Derived.Test.YtjjmgnllhihoeaaGreatFmtSpN
import Derived.Test.YtjjmgnllhihoeaaGreatFmtSpK
import Derived.Test.YtjjmgnllhihoeaaGreatFmtSpL
set_option linter.unusedSimpArgs false
set_option linter.unusedVariables false
namespace Go.Proofs.YtjjmgnllhihoeaaGreatFmt
open Go.RowKit
attribute [local go_sem ↓] Go.wp_at_zero Go.wp_at_succ

theorem OneP.after {B b : Nat} {s : ByteArray} {p : Nat} {wd : Bool} {n m : Nat} {w w1 : World} {e : Ending} {w' : World} (hb : Below B w w1) (h : OneP B b s p wd n m w1 e w') : OneP B b s p wd n m w e w' := ⟨h.1, hb.trans h.2.1, h.2.2⟩

section
variable {B b : Nat} {s : ByteArray} {p : Nat} {wd : Bool} {n m : Nat} {w : World}

/-- What one step leaves behind a call that ends plainly. -/
def OneW (B b : Nat) (s : ByteArray) (p : Nat) (wd : Bool) (n m : Nat) (w : World) (e : Ending) (w' : World) : Prop := e = .returned (.tuple #[]) ∧ Hid (OneP B b s p wd n m w (.returned (.tuple #[])) w')
theorem OneW.of {f : Nat} {args : Array Value} (h : Calls Tryz.prog f args w (OneP B b s p wd n m w)) : Calls Tryz.prog f args w (OneW B b s p wd n m w) :=
  h.mono fun _ _ h => ⟨h.1, Lib.hid ⟨rfl, h.2⟩⟩

theorem beg_v (h : SpI B b s p 1 wd n m w) (t : ByteArray) (ht : t.size ≤ 100) (ht0 : 0 < t.size) {v : Bool} (hv : Hid (begB s p t = v)) :
    Calls Tryz.prog 9 #[.pointer (some ⟨b, 0, none⟩), .string t] w (fun e w' => e = .returned (.bool v) ∧ SpI B b s p 1 wd n m w' ∧ Below B w w') :=
  (begins_any B b s p 1 wd n m w h t ht ht0).mono fun _ _ ⟨he, k, hw⟩ => ⟨by rw [he, hv.out], by rw [hw]; exact h.drewN k, by rw [hw]; exact below_drewN (Below.refl B w) k⟩

theorem verb_34 (h : SpI B b s p 1 wd n m w) (hn : n ≤ 200000) (h1 : ch s p = 64) (h2 : ch s (p + 1) = 34) : Calls Tryz.prog 13 #[.pointer (some ⟨b, 0, none⟩), .int .u8 34, .int .i64 3] w (OneW B b s p wd n m w) :=
  OneW.of (verbatim_any B b s p wd n m w h hn 34 3 h1 h2 (.inl rfl))
theorem verb_39 (h : SpI B b s p 1 wd n m w) (hn : n ≤ 200000) (h1 : ch s p = 64) (h2 : ch s (p + 1) = 39) : Calls Tryz.prog 13 #[.pointer (some ⟨b, 0, none⟩), .int .u8 39, .int .i64 4] w (OneW B b s p wd n m w) :=
  OneW.of (verbatim_any B b s p wd n m w h hn 39 4 h1 h2 (.inr rfl))
theorem quot_34 (h : SpI B b s p 1 wd n m w) (hn : n ≤ 200000) (h1 : ch s p = 34) : Calls Tryz.prog 14 #[.pointer (some ⟨b, 0, none⟩), .int .u8 34, .int .i64 1] w (OneW B b s p wd n m w) :=
  OneW.of (quoted_any B b s p wd n m w h hn 34 1 h1 (.inl rfl))
theorem quot_39 (h : SpI B b s p 1 wd n m w) (hn : n ≤ 200000) (h1 : ch s p = 39) : Calls Tryz.prog 14 #[.pointer (some ⟨b, 0, none⟩), .int .u8 39, .int .i64 0] w (OneW B b s p wd n m w) :=
  OneW.of (quoted_any B b s p wd n m w h hn 39 0 h1 (.inr rfl))
end

def pnL : List ByteArray := [⟨#[123]⟩, ⟨#[125]⟩, ⟨#[91]⟩, ⟨#[93]⟩, ⟨#[40]⟩, ⟨#[41]⟩, ⟨#[44]⟩, ⟨#[46]⟩, ⟨#[59]⟩]
abbrev pnCells : Array Value := #[.string ⟨#[123]⟩, .string ⟨#[125]⟩, .string ⟨#[91]⟩, .string ⟨#[93]⟩, .string ⟨#[40]⟩, .string ⟨#[41]⟩, .string ⟨#[44]⟩, .string ⟨#[46]⟩, .string ⟨#[59]⟩]

theorem pn_call (w : World) (x : ByteArray) {v : Bool} (hv : Hid (hasB pnL x = v)) :
    Calls Tryz.prog 18 #[.slice (some ⟨w.heap.size, 0, none⟩) 9 9, .string x] (w.alloc (.cells pnCells 9)).drew (fun e w' => e = .returned (.bool v) ∧ w' = (w.alloc (.cells pnCells 9)).drew) := by
  have hb : (w.alloc (.cells pnCells 9)).drew.heap[w.heap.size]? = some (.cells pnCells 9 (0, 0)) := heap_alloc_new w _
  have h := has_any pnL w.heap.size 9 x (w.alloc (.cells pnCells 9)).drew (by decide) (by
    intro i hi
    simp only [World.cell?, hb]
    have : i = 0 ∨ i = 1 ∨ i = 2 ∨ i = 3 ∨ i = 4 ∨ i = 5 ∨ i = 6 ∨ i = 7 ∨ i = 8 := by have : i < 9 := hi; omega
    rcases this with rfl | rfl | rfl | rfl | rfl | rfl | rfl | rfl | rfl <;> rfl)
  rw [hv.out] at h
  exact h

theorem pn_has (s : ByteArray) (k : Nat) (hk : k < s.size) : hasB pnL (s.extract k (k + 1)) = true ↔ Pn (ch s k) := by
  have hz : (s.extract k (k + 1)).size = 1 := by rw [ByteArray.size_extract]; omega
  have h0 : ch (s.extract k (k + 1)) 0 = ch s k := ch_ext2 s k (k + 1) 0 (by omega) (by omega)
  have h1 : ∀ x : UInt8, ((ByteArray.mk #[x]).toList == (s.extract k (k + 1)).toList) = true ↔ ch s k = x.toNat := by
    intro x
    rw [bytes_eq, hz]
    constructor
    · rintro ⟨_, h⟩
      have := h 0 (by show 0 < 1; omega)
      rw [h0] at this
      exact this.symm
    · intro h
      refine ⟨rfl, fun i hi => ?_⟩
      have : i = 0 := by have : i < 1 := hi; omega
      subst this
      rw [h0, h]; rfl
  unfold hasB pnL Pn
  simp only [List.any_cons, List.any_nil, Bool.or_false, Bool.or_eq_true]
  rw [h1, h1, h1, h1, h1, h1, h1, h1, h1]
  simp only [show (123 : UInt8).toNat = 123 from rfl, show (125 : UInt8).toNat = 125 from rfl, show (91 : UInt8).toNat = 91 from rfl, show (93 : UInt8).toNat = 93 from rfl, show (40 : UInt8).toNat = 40 from rfl, show (41 : UInt8).toNat = 41 from rfl, show (44 : UInt8).toNat = 44 from rfl, show (46 : UInt8).toNat = 46 from rfl, show (59 : UInt8).toNat = 59 from rfl]

set_option maxRecDepth 100000 in
set_option maxHeartbeats 25600000 in
theorem one_any : OneAll := by
  intro B b s p wd n m w h hn hm hps
  obtain ⟨c0, c1, _⟩ := h.cells
  obtain ⟨hp, hs⟩ := h.bounds
  have HL := Lib.hid h
  have i0 : (0 : Int) ≤ (p : Int) := by omega
  have i1 : (p : Int) < (s.size : Int) := by omega
  clear h
  go_enter Tryz.func7, Tryz.ntmps7
  go_wp2_with fail
  go_quiet (fail)
  have HLq := Lib.hid (HL.out.drewN nq)
  have HBq := Lib.hid (below_drewN (Below.refl B w) nq)
  clear c0 c1 HL
  generalize w.drewN nq = W1 at *
  have hx := ch_in s p hps
  have hx256 := ch_lt s p hps
  have hch : ch s p = s[p].toNat := hx
  generalize s[p].toNat = c at *
  clear hx
  have HX := Lib.hid hch
  rw [hch] at hx256
  clear hch
  have bq : ∀ v : Nat, c = v → ((c : Int) == (v : Int)) = true := fun v h => by rw [h]; simp
  have bn : ∀ v : Nat, c ≠ v → ((c : Int) == (v : Int)) = false := fun v h => by simp; omega
  have BQ := Lib.hid bq
  have BN := Lib.hid bn
  clear bq bn
  by_cases hws : Ws c
  · obtain ⟨p1, hp1⟩ : ∃ p1, p1 = p + 1 := ⟨_, rfl⟩
    have HP1 := Lib.hid hp1
    have ep1 : (p : Int) + 1 = (p1 : Int) := by omega
    have hp1s : p1 ≤ s.size := by omega
    have hpc : Piece (ch s) p p1 0 := by rw [hp1]; exact Piece.ws p (by rw [HX.out]; exact hws)
    have HPc := Lib.hid hpc
    have hBb := HLq.out.base
    obtain ⟨c0, c1, _, _, fz⟩ := HLq.out.cells
    have fz1 := fz 1
    clear hpc hp1 c0 fz
    have fin : ∀ w9, w9 = W1.setCell ⟨b, 1, none⟩ (.int .i64 p1) → OneP B b s p wd n m w (.returned (.tuple #[])) w9 := by
      rintro w9 rfl
      exact ⟨rfl, HBq.out.setCell hBb _, p1, 1, wd, n, m, HLq.out.putP p1 hp1s, Nat.le_succ _, Nat.le_succ _, id, fun _ => ⟨by have := HP1.out; omega, fun _ => ⟨0, rfl, HPc.out⟩⟩⟩
    have FIN := Lib.hid fin
    clear fin
    unfold Ws at hws
    by_cases h32 : c = 32
    · have x32 : ((c : Int) == 32) = true := BQ.out 32 h32
      clear hws h32
      go_wp2_with fail
      go_end0
      exact FIN.out _ rfl
    have x32 : ((c : Int) == 32) = false := BN.out 32 h32
    by_cases h9 : c = 9
    · have x9 : ((c : Int) == 9) = true := BQ.out 9 h9
      clear hws h32 h9
      go_wp2_with fail
      go_end0
      exact FIN.out _ rfl
    have x9 : ((c : Int) == 9) = false := BN.out 9 h9
    by_cases h10 : c = 10
    · have x10 : ((c : Int) == 10) = true := BQ.out 10 h10
      clear hws h32 h9 h10
      go_wp2_with fail
      go_end0
      exact FIN.out _ rfl
    have x10 : ((c : Int) == 10) = false := BN.out 10 h10
    have x13 : ((c : Int) == 13) = true := BQ.out 13 (by omega)
    clear hws h32 h9 h10
    go_wp2_with fail
    go_end0
    exact FIN.out _ rfl
  have x32 : ((c : Int) == 32) = false := BN.out 32 (by unfold Ws at hws; omega)
  have x9 : ((c : Int) == 9) = false := BN.out 9 (by unfold Ws at hws; omega)
  have x10 : ((c : Int) == 10) = false := BN.out 10 (by unfold Ws at hws; omega)
  have x13 : ((c : Int) == 13) = false := BN.out 13 (by unfold Ws at hws; omega)
  clear hws
  by_cases h35 : c = 35
  · have x35 : ((c : Int) == 35) = true := BQ.out 35 h35
    have hl : ch s p = 35 ∨ (ch s p = 47 ∧ ch s (p + 1) = 47) := .inl (by rw [HX.out, h35])
    have HLn := Lib.hid hl
    clear hl h35
    go_wp2_with (first
      | (go_at_call 10; ((refine (OneW.of (line_any B b s p wd n m _ HLq.out hm HLn.out)).mono ?_); rintro e9 w9 ⟨rfl, hx9⟩)))
    go_end0
    exact OneP.after (HBq.out) hx9.out
  have x35 : ((c : Int) == 35) = false := BN.out 35 h35
  clear h35
  cases hg0 : begB s p ⟨#[47, 47]⟩
  rotate_left 1
  · have HG := Lib.hid ((begB_2 s p 47 47).1 hg0)
    have HV := Lib.hid hg0
    clear hg0
    go_wp2_with (first
      | (go_at_call 9; ((refine (beg_v HLq.out ⟨#[47, 47]⟩ (by decide) (by decide) HV).mono ?_); rintro e2 w2 ⟨rfl, hL2, hb2⟩))
      | (go_at_call 10; ((refine (OneW.of (line_any B b s p wd n m _ hL2 hm (.inr HG.out))).mono ?_); rintro e9 w9 ⟨rfl, hx9⟩)))
    go_end0
    exact OneP.after (HBq.out.trans hb2) hx9.out
  have HV0 := Lib.hid hg0
  clear hg0
  go_upto_region 6 with (go_at_call 9; ((refine (beg_v HLq.out ⟨#[47, 47]⟩ (by decide) (by decide) HV0).mono ?_); rintro e2 w2 ⟨rfl, hL2, hb2⟩))
  have HBn := Lib.hid (HBq.out.trans hb2)
  clear HLq HBq
  have HLq := Lib.hid hL2
  have HBq := HBn
  clear HBn hL2 hb2
  cases hg1 : begB s p ⟨#[47, 42]⟩
  rotate_left 1
  · have HG := Lib.hid ((begB_2 s p 47 42).1 hg1)
    have HV := Lib.hid hg1
    clear hg1
    go_wp2_with (first
      | (go_at_call 9; ((refine (beg_v HLq.out ⟨#[47, 42]⟩ (by decide) (by decide) HV).mono ?_); rintro e2 w2 ⟨rfl, hL2, hb2⟩))
      | (go_at_call 11; ((refine (OneW.of (comment_any B b s p wd n m _ hL2 hm HG.out.1 HG.out.2)).mono ?_); rintro e9 w9 ⟨rfl, hx9⟩)))
    go_end0
    exact OneP.after (HBq.out.trans hb2) hx9.out
  have HV1 := Lib.hid hg1
  clear hg1
  go_upto_region 8 with (go_at_call 9; ((refine (beg_v HLq.out ⟨#[47, 42]⟩ (by decide) (by decide) HV1).mono ?_); rintro e2 w2 ⟨rfl, hL2, hb2⟩))
  have HBn := Lib.hid (HBq.out.trans hb2)
  clear HLq HBq
  have HLq := Lib.hid hL2
  have HBq := HBn
  clear HBn hL2 hb2
  cases hg2 : begB s p ⟨#[124, 124, 124]⟩
  rotate_left 1
  · have HG := Lib.hid ((begB_3 s p 124 124 124).1 hg2)
    have HV := Lib.hid hg2
    clear hg2
    go_wp2_with (first
      | (go_at_call 9; ((refine (beg_v HLq.out ⟨#[124, 124, 124]⟩ (by decide) (by decide) HV).mono ?_); rintro e2 w2 ⟨rfl, hL2, hb2⟩))
      | (go_at_call 12; ((refine (OneW.of (block_any B b s p wd n m _ hL2 hn HG.out.1 HG.out.2.1 HG.out.2.2)).mono ?_); rintro e9 w9 ⟨rfl, hx9⟩)))
    go_end0
    exact OneP.after (HBq.out.trans hb2) hx9.out
  have HV2 := Lib.hid hg2
  clear hg2
  go_upto_region 10 with (go_at_call 9; ((refine (beg_v HLq.out ⟨#[124, 124, 124]⟩ (by decide) (by decide) HV2).mono ?_); rintro e2 w2 ⟨rfl, hL2, hb2⟩))
  have HBn := Lib.hid (HBq.out.trans hb2)
  clear HLq HBq
  have HLq := Lib.hid hL2
  have HBq := HBn
  clear HBn hL2 hb2
  cases hg3 : begB s p ⟨#[64, 34]⟩
  rotate_left 1
  · have HG := Lib.hid ((begB_2 s p 64 34).1 hg3)
    have HV := Lib.hid hg3
    clear hg3
    go_wp2_with (first
      | (go_at_call 9; ((refine (beg_v HLq.out ⟨#[64, 34]⟩ (by decide) (by decide) HV).mono ?_); rintro e2 w2 ⟨rfl, hL2, hb2⟩))
      | (go_at_call 13; ((refine (verb_34 hL2 hn HG.out.1 HG.out.2).mono ?_); rintro e9 w9 ⟨rfl, hx9⟩)))
    go_end0
    exact OneP.after (HBq.out.trans hb2) hx9.out
  have HV3 := Lib.hid hg3
  clear hg3
  go_upto_region 12 with (go_at_call 9; ((refine (beg_v HLq.out ⟨#[64, 34]⟩ (by decide) (by decide) HV3).mono ?_); rintro e2 w2 ⟨rfl, hL2, hb2⟩))
  have HBn := Lib.hid (HBq.out.trans hb2)
  clear HLq HBq
  have HLq := Lib.hid hL2
  have HBq := HBn
  clear HBn hL2 hb2
  cases hg4 : begB s p ⟨#[64, 39]⟩
  rotate_left 1
  · have HG := Lib.hid ((begB_2 s p 64 39).1 hg4)
    have HV := Lib.hid hg4
    clear hg4
    go_wp2_with (first
      | (go_at_call 9; ((refine (beg_v HLq.out ⟨#[64, 39]⟩ (by decide) (by decide) HV).mono ?_); rintro e2 w2 ⟨rfl, hL2, hb2⟩))
      | (go_at_call 13; ((refine (verb_39 hL2 hn HG.out.1 HG.out.2).mono ?_); rintro e9 w9 ⟨rfl, hx9⟩)))
    go_end0
    exact OneP.after (HBq.out.trans hb2) hx9.out
  have HV4 := Lib.hid hg4
  clear hg4
  go_upto_region 14 with (go_at_call 9; ((refine (beg_v HLq.out ⟨#[64, 39]⟩ (by decide) (by decide) HV4).mono ?_); rintro e2 w2 ⟨rfl, hL2, hb2⟩))
  have HBn := Lib.hid (HBq.out.trans hb2)
  clear HLq HBq
  have HLq := Lib.hid hL2
  have HBq := HBn
  clear HBn hL2 hb2
  by_cases h34 : c = 34
  · have x34 : ((c : Int) == 34) = true := BQ.out 34 h34
    have hl : ch s p = 34 := by rw [HX.out, h34]
    have HLn := Lib.hid hl
    clear hl h34
    go_wp2_with (first
      | (go_at_call 14; ((refine (quot_34 HLq.out hn HLn.out).mono ?_); rintro e9 w9 ⟨rfl, hx9⟩)))
    go_end0
    exact OneP.after (HBq.out) hx9.out
  have x34 : ((c : Int) == 34) = false := BN.out 34 h34
  clear h34
  by_cases h39 : c = 39
  · have x39 : ((c : Int) == 39) = true := BQ.out 39 h39
    have hl : ch s p = 39 := by rw [HX.out, h39]
    have HLn := Lib.hid hl
    clear hl h39
    go_wp2_with (first
      | (go_at_call 14; ((refine (quot_39 HLq.out hn HLn.out).mono ?_); rintro e9 w9 ⟨rfl, hx9⟩)))
    go_end0
    exact OneP.after (HBq.out) hx9.out
  have x39 : ((c : Int) == 39) = false := BN.out 39 h39
  clear h39
  cases hd : nuB (c : Int)
  rotate_left 1
  · have hdg : Dg (ch s p) := by
      rw [HX.out]
      have : nuP (c : Int) := by simpa [nuB] using hd
      unfold nuP at this
      unfold Dg
      omega
    have HD := Lib.hid hdg
    clear hdg
    go_wp2_with (first
      | (go_at_call 15; refine (digit_any _ _).mono ?_; rintro e w2 ⟨rfl, rfl⟩)
      | (go_at_call 16; ((refine (OneW.of (number_any B b s p wd n m _ HLq.out hn HD.out)).mono ?_); rintro e9 w9 ⟨rfl, hx9⟩)))
    go_end0
    exact OneP.after (HBq.out) hx9.out
  go_upto_region 20 with (go_at_call 15; refine (digit_any _ _).mono ?_; rintro e w2 ⟨rfl, rfl⟩)
  clear hd
  cases hl : ltB (c : Int)
  rotate_left 1
  · have hlt : Lt (ch s p) := by
      rw [HX.out]
      have : ltP (c : Int) := by simpa [ltB] using hl
      unfold ltP at this
      unfold Lt
      omega
    have HLT := Lib.hid hlt
    clear hlt
    obtain ⟨c0, c1, _⟩ := HLq.out.cells
    go_upto_block 1 with (go_at_call 17; refine (letter_any _ _).mono ?_; rintro e3 w3 ⟨rfl, rfl⟩)
    clear hl x32 x9 x10 x13 x35 x34 x39 HV0 HV1 HV2 HV3 HV4 BQ BN c1
    go_cut [3] (fun s3 wx => ∃ f : Nat, s3 = .int .i64 f ∧ p < f ∧ f ≤ s.size ∧ (∀ k, p ≤ k → k < f → Lt (ch s k) ∨ Dg (ch s k)) ∧ ¬ Lt (ch s f) ∧ ¬ Dg (ch s f) ∧ wx = w2)
    case first =>
      go_wp2_with fail
      go_loopg [3] (s.size - p) (fun k x3 wr => ∃ f : Nat, x3 = .int .i64 f ∧ p ≤ f ∧ f ≤ s.size ∧ s.size - f ≤ k ∧ (∀ k, p ≤ k → k < f → Lt (ch s k) ∨ Dg (ch s k)) ∧ wr = w2)
      case atStart => exact ⟨p, rfl, Nat.le_refl _, hp, Nat.le_refl _, fun k h1 h2 => by omega, rfl⟩
      case round =>
        obtain ⟨f, rfl, hpf, hf, hk, hD, rfl⟩ := hrel
        have HD := Lib.hid hD
        have HK := Lib.hid hk
        have i2 : (0 : Int) ≤ (f : Int) := by omega
        clear hD hk
        by_cases hlt : f < s.size
        · have hd2 : decide ((f : Int) < (s.size : Int)) = true := by simp; omega
          have HG := Lib.hid (dg_byte s f hlt)
          have HM := Lib.hid (lt_byte s f hlt)
          cases hl1 : ltB (s[f].toNat : Int)
          · cases hd1 : nuB (s[f].toNat : Int)
            · have hnl : ¬ Lt (ch s f) := fun hh => by have := HM.out.2 hh; simp [ltB] at hl1; exact hl1 this
              have hnd : ¬ Dg (ch s f) := fun hh => by have := HG.out.2 hh; simp [nuB] at hd1; exact hd1 this
              have HNL := Lib.hid hnl
              have HND := Lib.hid hnd
              clear hnl hnd
              go_wp2_with (first
                | (go_at_call 17; refine (letter_any _ _).mono ?_; rintro e3 w3 ⟨rfl, rfl⟩)
                | (go_at_call 15; refine (digit_any _ _).mono ?_; rintro e3 w3 ⟨rfl, rfl⟩))
              go_meet
              refine ⟨f, rfl, ?_, hf, HD.out, HNL.out, HND.out, rfl⟩
              rcases Nat.lt_or_ge p f with h | h
              · exact h
              · exact absurd (by rw [show f = p by omega]; exact HLT.out) HNL.out
            · have hdg : Dg (ch s f) := HG.out.1 (by simpa [nuB] using hd1)
              have HDG := Lib.hid hdg
              clear hdg
              go_wp2_with (first
                | (go_at_call 17; refine (letter_any _ _).mono ?_; rintro e3 w3 ⟨rfl, rfl⟩)
                | (go_at_call 15; refine (digit_any _ _).mono ?_; rintro e3 w3 ⟨rfl, rfl⟩))
              have hk' := HK.out
              go_roundg (gk - 1)
              case measure => omega
              case rel => exact ⟨f + 1, by go_num, by omega, by omega, by omega, fun k h1 h2 => by
                by_cases hkf : k < f
                · exact HD.out k h1 hkf
                · rw [show k = f by omega]; exact .inr HDG.out, rfl⟩
          · have hlg : Lt (ch s f) := HM.out.1 (by simpa [ltB] using hl1)
            have HLG := Lib.hid hlg
            clear hlg
            go_wp2_with (first
              | (go_at_call 17; refine (letter_any _ _).mono ?_; rintro e3 w3 ⟨rfl, rfl⟩)
              | (go_at_call 15; refine (digit_any _ _).mono ?_; rintro e3 w3 ⟨rfl, rfl⟩))
            have hk' := HK.out
            go_roundg (gk - 1)
            case measure => omega
            case rel => exact ⟨f + 1, by go_num, by omega, by omega, by omega, fun k h1 h2 => by
              by_cases hkf : k < f
              · exact HD.out k h1 hkf
              · rw [show k = f by omega]; exact .inl HLG.out, rfl⟩
        · have hd2 : decide ((f : Int) < (s.size : Int)) = false := by simp; omega
          have HNL := Lib.hid (not_lt_end s f (by omega))
          have HND := Lib.hid (not_dg_end s f (by omega))
          go_wp2_with fail
          go_meet
          exact ⟨f, rfl, by omega, hf, HD.out, HNL.out, HND.out, rfl⟩
    case rest =>
      obtain ⟨f, rfl, hpf, hfs, hD, hnl, hnd, rfl⟩ := hcut
      have HPc := Lib.hid (Piece.ident p f HLT.out hpf hD hnl hnd)
      clear hD hnl hnd c0
      obtain ⟨c0, c1, _⟩ := HLq.out.cells
      have hlt2 := HLq.out.lt
      have hbw2 := HLq.out.baseW
      have j1 : (p : Int) ≤ (f : Int) := by omega
      have j2 : (f : Int) ≤ (s.size : Int) := by omega
      go_wp2_with fail
      go_region_held3 (fun w' => w'.cell? ⟨b, 0, none⟩ = some (.string s) ∧ w'.cell? ⟨b, 1, none⟩ = some (.int .i64 p)) (first | go_keep | (go_split_ands; refine ⟨(hb3.cell (p := ⟨b, 0, none⟩) (by simpa using hlt2)).trans (by simpa using c0), (hb3.cell (p := ⟨b, 1, none⟩) (by simpa using hlt2)).trans (by simpa using c1)⟩))
        ((first
          | (go_at_call 19; refine (keys_any _).mono ?_; rintro e3 w3 ⟨rfl, hk3, hb3⟩)
          | (go_at_call 18; (first | refine (has_keys _ _ _ hk3).mono ?_ | refine (has_keys _ _ (World.drew _) hk3).mono ?_); rintro e4 w4 ⟨v, rfl, rfl⟩)))
      have hb4 : Below wc.heap.size wc w4 := ⟨hb3.os, hb3.tape, hb3.output, hb3.size, hb3.block⟩
      have HL5 := Lib.hid (HLq.out.old hb4)
      have HB5 := Lib.hid (HBq.out.trans (hb4.mono hbw2))
      clear hk3 hb3 hb4 c0 c1
      cases v
      all_goals
        go_wp2_with (go_at_call 20; ((refine (put_any B b s p 1 wd n m _ HL5.out hn _ f (by omega) hfs).mono ?_); rintro e9 w9 ⟨rfl, hL9, hb9⟩))
        go_end0
        exact ⟨rfl, HB5.out.trans hb9, f, 1, wd, n + 1, m, hL9, Nat.le_refl _, Nat.le_succ _, id, fun _ => ⟨hpf, fun _ => ⟨1, rfl, HPc.out⟩⟩⟩
  go_upto_region 28 with (go_at_call 17; refine (letter_any _ _).mono ?_; rintro e w2 ⟨rfl, rfl⟩)
  clear hl
  obtain ⟨p1, hp1⟩ : ∃ p1, p1 = p + 1 := ⟨_, rfl⟩
  have HP1 := Lib.hid hp1
  have ep1 : (p : Int) + 1 = (p1 : Int) := by omega
  have ww1 : IntKind.i64.wrap (p1 : Int) = (p1 : Int) := IntWalk.i64_in _ (by omega)
  have j1 : (p : Int) ≤ (p1 : Int) := by omega
  have j2 : (p1 : Int) ≤ (s.size : Int) := by omega
  have hpn := pn_has s p hps
  rw [← hp1] at hpn
  obtain ⟨c0, c1, _⟩ := HLq.out.cells
  have hlt2 := HLq.out.lt
  have HL5 := Lib.hid (HLq.out.old (((Below.refl _ w2).alloc (Nat.le_refl _) (.cells pnCells 9)).drew))
  have HB5 := Lib.hid (HBq.out.trans (((Below.refl _ w2).alloc HLq.out.baseW (.cells pnCells 9)).drew))
  have hpp1 : p ≤ p1 := by omega
  have hp1s : p1 ≤ s.size := by omega
  clear hp1
  cases hpb : hasB pnL (s.extract p p1)
  rotate_left 1
  · have HPc : Hid (Piece (ch s) p p1 1) := Lib.hid (by rw [HP1.out]; exact Piece.punct p (hpn.1 hpb))
    have HPB := Lib.hid hpb
    clear hpb hpn
    go_region_held3 (fun w' => w'.cell? ⟨b, 0, none⟩ = some (.string s) ∧ w'.cell? ⟨b, 1, none⟩ = some (.int .i64 p)) (go_keep) ((go_at_call 18; refine (pn_call w2 _ HPB).mono ?_; rintro e3 w3 ⟨rfl, rfl⟩))
    clear ww1 c0 c1
    obtain ⟨c0, c1, _⟩ := HL5.out.cells
    go_wp2_with (go_at_call 20; ((refine (put_any B b s p 1 wd n m _ HL5.out hn 5 p1 hpp1 hp1s).mono ?_); rintro e9 w9 ⟨rfl, hL9, hb9⟩))
    go_end0
    exact ⟨rfl, HB5.out.trans hb9, p1, 1, wd, n + 1, m, hL9, Nat.le_refl _, Nat.le_succ _, id, fun _ => ⟨by have := HP1.out; omega, fun _ => ⟨1, rfl, HPc.out⟩⟩⟩
  have HPB := Lib.hid hpb
  clear hpb hpn
  go_region_held3 (fun w' => w'.cell? ⟨b, 0, none⟩ = some (.string s) ∧ w'.cell? ⟨b, 1, none⟩ = some (.int .i64 p)) (go_keep) ((go_at_call 18; refine (pn_call w2 _ HPB).mono ?_; rintro e3 w3 ⟨rfl, rfl⟩))
  clear ww1 c0 c1 HLq HBq
  generalize (w2.alloc (.cells pnCells 9)).drew = w5 at *
  have hbw5 := HL5.out.baseW
  cases hop : opB (c : Int)
  rotate_left 1
  · have ho1 : Op (ch s p) := (opB_iff (ch s p)).1 (by rw [HX.out]; exact hop)
    have ho2 : ¬ (ch s p = 47 ∧ (ch s (p + 1) = 47 ∨ ch s (p + 1) = 42)) := by
      rintro ⟨g1, g2 | g2⟩
      · have := (begB_2 s p 47 47).2 ⟨g1, g2⟩
        rw [HV0.out] at this; cases this
      · have := (begB_2 s p 47 42).2 ⟨g1, g2⟩
        rw [HV1.out] at this; cases this
    have ho3 : ¬ (ch s p = 124 ∧ ch s (p + 1) = 124 ∧ ch s (p + 2) = 124) := fun g => by
      have := (begB_3 s p 124 124 124).2 g
      rw [HV2.out] at this; cases this
    have HO1 := Lib.hid ho1
    have HO2 := Lib.hid ho2
    have HO3 := Lib.hid ho3
    clear ho1 ho2 ho3
    go_wp2_with (first
      | (go_at_call 21; refine (opByte_any _ _).mono ?_; rintro e6 w6 ⟨rfl, hb6⟩; have hL6 := HL5.out.old hb6; have HB6 := Lib.hid (HB5.out.trans (hb6.mono hbw5)); clear hb6)
      | (go_at_call 22; ((refine (OneW.of (sign_any B b s p wd n m _ hL6 hn HO1.out HO2.out HO3.out)).mono ?_); rintro e9 w9 ⟨rfl, hx9⟩)))
    go_end0
    exact OneP.after HB6.out hx9.out
  by_cases h128 : c < 128
  · have x128 : decide ((c : Int) < 128) = true := by simp; omega
    clear h128
    go_wp2_with (first
      | (go_at_call 21; refine (opByte_any _ _).mono ?_; rintro e6 w6 ⟨rfl, hb6⟩; have hL6 := HL5.out.old hb6; have HB6 := Lib.hid (HB5.out.trans (hb6.mono hbw5)); clear hb6)
      | (go_at_call 23; refine (stop_any B b s p 1 2 wd n m _ hL6).mono ?_; rintro e9 w9 ⟨rfl, hL9, hb9⟩))
    go_end0
    exact OneP.fell (HB6.out.trans hb9) hL9 (Nat.le_succ _) (Nat.le_succ _) (by decide)
  have x128 : decide ((c : Int) < 128) = false := by simp; omega
  clear h128
  go_wp2_with (first
    | (go_at_call 21; refine (opByte_any _ _).mono ?_; rintro e6 w6 ⟨rfl, hb6⟩; have hL6 := HL5.out.old hb6; have HB6 := Lib.hid (HB5.out.trans (hb6.mono hbw5)); clear hb6)
    | (go_at_call 23; refine (stop_any B b s p 1 0 wd n m _ hL6).mono ?_; rintro e9 w9 ⟨rfl, hL9, hb9⟩))
  go_end0
  exact OneP.fell (HB6.out.trans hb9) hL9 (Nat.le_succ _) (Nat.le_succ _) (by decide)
end Go.Proofs.YtjjmgnllhihoeaaGreatFmt
