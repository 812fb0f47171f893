/- The state of the package's lexer in memory, and what stays of it behind writes; what peek and next come to. -/
import Derived.Test.YtjjmgnllhihoeaaGreatFmtRunes
import Derived.Test.YtjjmgnllhihoeaaGreatFmtTextB
import Derived.Test.YtjjmgnllhihoeaaGreatFmtShelf
import Derived.WalkKit
import Derived.WalkSpells
import Derived.WalkLawsBesides
import Derived.Lib.Hide
import Derived.Lib.BufferOwn
import Derived.Lib.BufferMore
import Derived.Lib.BufferOld
import Derived.Lib.BufferKept
import Derived.Lib.OthersKept
import Derived.Deep.QuietTactic
import Derived.BigQuiet
import Derived.Deep.RegionHeld3
import Derived.Deep.DrawnRows
import Derived.Deep.AppendLies
set_option linter.unusedSimpArgs false
set_option linter.unusedVariables false
namespace Go.Proofs.YtjjmgnllhihoeaaGreatFmt
open Go.RowKit

theorem tabs_below {B : Nat} {w w' : World} (h : Lib.Utf8Tabs 0 1 w) (h2 : 2 ≤ B) (hb : Below B w w') : Lib.Utf8Tabs 0 1 w' := by
  refine ⟨fun c hc => ?_, fun i hi => ⟨?_, ?_⟩⟩
  · rw [hb.cell (show (⟨0, c, none⟩ : Addr).block < B from by show 0 < B; omega)]; exact h.1 c hc
  · rw [hb.cell (show (⟨1, 2 * i, none⟩ : Addr).block < B from by show 1 < B; omega)]; exact (h.2 i hi).1
  · rw [hb.cell (show (⟨1, 2 * i + 1, none⟩ : Addr).block < B from by show 1 < B; omega)]; exact (h.2 i hi).2

/-- The lexer's cells. -/
def lexCells (t : ByteArray) (src : Option Addr) (tv fv : Value) (ts l1 l2 : Int) (fr : Bool) (p ln ls : Int) : Array Value :=
  #[.string ⟨#[]⟩, .string ⟨#[]⟩, .string t, .pointer src, tv, fv, .int .i64 ts, .int .i64 l1, .int .i64 l2, .bool fr, .int .i64 p, .int .i64 ln, .int .i64 ls]

/-- The lexer in block b, all that it holds written out. All that it owns lies from block B on. -/
structure LexB (B b : Nat) (t : ByteArray) (src : Option Addr) (tv fv : Value) (ts : Nat) (l1 l2 : Int) (fr : Bool) (p : Nat) (ln ls : Int) (n m : Nat) (xs ys : List Value) (w : World) : Prop where
  blk : w.heap[b]? = some (.cells (lexCells t src tv fv ts l1 l2 fr p ln ls) 69 (0, 0))
  tok : w.ownsRow B 100 11 tv n xs
  fod : w.ownsRow B 84 4 fv m ys
  ntv : tv.ownBlock ≠ some b
  nfv : fv.ownBlock ≠ some b
  nvv : tv.ownBlock = none ∨ tv.ownBlock ≠ fv.ownBlock
  hB : B ≤ b
  two : 2 ≤ B
  tabs : Lib.Utf8Tabs 0 1 w
  b1 : ts ≤ p
  b2 : p ≤ t.size
  b3 : t.size ≤ 100000
  ty : ∀ j, j < m → ∃ k : Int, ys[4 * j + 1]? = some (.int .i64 k)

/-- The lexer in block b: the text t, the place p, the token's start ts, n tokens, m pieces of fodder. -/
def LexI (B b : Nat) (t : ByteArray) (p ts n m : Nat) (w : World) : Prop :=
  ∃ (src : Option Addr) (tv fv : Value) (l1 l2 ln ls : Int) (fr : Bool) (xs ys : List Value), LexB B b t src tv fv ts l1 l2 fr p ln ls n m xs ys w

section
variable {B b : Nat} {t : ByteArray} {src : Option Addr} {tv fv : Value} {ts : Nat} {l1 l2 : Int} {fr : Bool} {p : Nat} {ln ls : Int} {n m : Nat} {xs ys : List Value} {w w' : World}

theorem LexB.lt (h : LexB B b t src tv fv ts l1 l2 fr p ln ls n m xs ys w) : b < w.heap.size := (Array.getElem?_eq_some_iff.1 h.blk).1
theorem LexB.base (h : LexB B b t src tv fv ts l1 l2 fr p ln ls n m xs ys w) : B ≤ w.heap.size := Nat.le_of_lt (Nat.lt_of_le_of_lt h.hB h.lt)
theorem LexB.i (h : LexB B b t src tv fv ts l1 l2 fr p ln ls n m xs ys w) : LexI B b t p ts n m w := ⟨_, _, _, _, _, _, _, _, _, _, h⟩

theorem LexB.carry (h : LexB B b t src tv fv ts l1 l2 fr p ln ls n m xs ys w)
    (hk : ∀ (k : Nat) (cs : Array Value) (T : TypeId), w.heap[k]? = some (Obj.cells cs T (0, 0)) → (T = 69 ∨ T = 100 ∨ T = 84) → w'.heap[k]? = some (Obj.cells cs T (0, 0))) (hb : Below B w w') :
    LexB B b t src tv fv ts l1 l2 fr p ln ls n m xs ys w' := by
  refine ⟨hk b _ _ h.blk (.inl rfl), ⟨h.tok.1, ?_⟩, ⟨h.fod.1, ?_⟩, h.ntv, h.nfv, h.nvv, h.hB, h.two, tabs_below h.tabs h.two hb, h.b1, h.b2, h.b3, h.ty⟩
  · rcases h.tok.2 with hn | ⟨g, cap, cur, hv, hg1, hg2, rest⟩
    · exact .inl hn
    · exact .inr ⟨g, cap, cur, hv, hg1, hk g _ _ hg2 (.inr (.inl rfl)), rest⟩
  · rcases h.fod.2 with hn | ⟨g, cap, cur, hv, hg1, hg2, rest⟩
    · exact .inl hn
    · exact .inr ⟨g, cap, cur, hv, hg1, hk g _ _ hg2 (.inr (.inr rfl)), rest⟩

theorem LexB.old (h : LexB B b t src tv fv ts l1 l2 fr p ln ls n m xs ys w) (hb : Below w.heap.size w w') : LexB B b t src tv fv ts l1 l2 fr p ln ls n m xs ys w' :=
  h.carry (fun k cs T hk _ => by
    have : k < w.heap.size := (Array.getElem?_eq_some_iff.1 hk).1
    rw [hb.block k this]; exact hk) (hb.mono h.base)

theorem LexB.others (h : LexB B b t src tv fv ts l1 l2 fr p ln ls n m xs ys w) {q : Nat} {c : Array Value} {T : TypeId} {fz : Nat × Nat} (hq1 : w.heap[q]? = some (Obj.cells c T fz)) (hq : T ≠ 69 ∧ T ≠ 100 ∧ T ≠ 84)
    (ho : Lib.OthersKept 5 (some q) w w') (hb : Below B w w') : LexB B b t src tv fv ts l1 l2 fr p ln ls n m xs ys w' :=
  h.carry (fun k cs T' hk hT => by
    refine ho k _ hk (fun e => ?_) (by intro c fz hh; injection hh with _ h5 _; rw [h5] at hT; revert hT; decide)
    have : k = q := Option.some.inj e
    subst this
    rw [hq1] at hk
    injection hk with hk
    injection hk with _ h5 _
    rw [← h5] at hT
    rcases hT with hT | hT | hT
    · exact hq.1 hT
    · exact hq.2.1 hT
    · exact hq.2.2 hT) hb

/-- A store into one of the lexer's own cells that are numbers. -/
theorem LexB.put (h : LexB B b t src tv fv ts l1 l2 fr p ln ls n m xs ys w) (i : Nat) {x : Value} {ts' : Nat} {l1' l2' : Int} {fr' : Bool} {p' : Nat} {ln' ls' : Int}
    (hc : (lexCells t src tv fv ts l1 l2 fr p ln ls).setIfInBounds i x = lexCells t src tv fv ts' l1' l2' fr' p' ln' ls') (hb : ts' ≤ p' ∧ p' ≤ t.size) :
    LexB B b t src tv fv ts' l1' l2' fr' p' ln' ls' n m xs ys (w.setCell ⟨b, i, none⟩ x) := by
  have hg := Lib.grownBy_setCell w b i x
  refine ⟨by rw [← hc]; exact Lib.heap_setCell_same h.blk x, h.tok.kept hg (.inr h.ntv), h.fod.kept hg (.inr h.nfv), h.ntv, h.nfv, h.nvv, h.hB, h.two, ?_, hb.1, hb.2, h.b3, h.ty⟩
  exact tabs_below h.tabs h.two ((Below.refl _ w).setCell h.hB _)

theorem LexB.putP (h : LexB B b t src tv fv ts l1 l2 fr p ln ls n m xs ys w) (p' : Nat) (h1 : ts ≤ p') (h2 : p' ≤ t.size) : LexB B b t src tv fv ts l1 l2 fr p' ln ls n m xs ys (w.setCell ⟨b, 10, none⟩ (.int .i64 p')) := h.put 10 rfl ⟨h1, h2⟩
theorem LexB.putTs (h : LexB B b t src tv fv ts l1 l2 fr p ln ls n m xs ys w) (ts' : Nat) (h1 : ts' ≤ p) : LexB B b t src tv fv ts' l1 l2 fr p ln ls n m xs ys (w.setCell ⟨b, 6, none⟩ (.int .i64 ts')) := h.put 6 rfl ⟨h1, h.b2⟩
theorem LexB.putLs (h : LexB B b t src tv fv ts l1 l2 fr p ln ls n m xs ys w) (x : Int) : LexB B b t src tv fv ts l1 l2 fr p ln x n m xs ys (w.setCell ⟨b, 12, none⟩ (.int .i64 x)) := h.put 12 rfl ⟨h.b1, h.b2⟩
theorem LexB.putLn (h : LexB B b t src tv fv ts l1 l2 fr p ln ls n m xs ys w) (x : Int) : LexB B b t src tv fv ts l1 l2 fr p x ls n m xs ys (w.setCell ⟨b, 11, none⟩ (.int .i64 x)) := h.put 11 rfl ⟨h.b1, h.b2⟩
theorem LexB.putL1 (h : LexB B b t src tv fv ts l1 l2 fr p ln ls n m xs ys w) (x : Int) : LexB B b t src tv fv ts x l2 fr p ln ls n m xs ys (w.setCell ⟨b, 7, none⟩ (.int .i64 x)) := h.put 7 rfl ⟨h.b1, h.b2⟩
theorem LexB.putL2 (h : LexB B b t src tv fv ts l1 l2 fr p ln ls n m xs ys w) (x : Int) : LexB B b t src tv fv ts l1 x fr p ln ls n m xs ys (w.setCell ⟨b, 8, none⟩ (.int .i64 x)) := h.put 8 rfl ⟨h.b1, h.b2⟩
theorem LexB.putFr (h : LexB B b t src tv fv ts l1 l2 fr p ln ls n m xs ys w) (x : Bool) : LexB B b t src tv fv ts l1 l2 x p ln ls n m xs ys (w.setCell ⟨b, 9, none⟩ (.bool x)) := h.put 9 rfl ⟨h.b1, h.b2⟩

/-- The cells that a walk loads, and that they may be written. -/
theorem LexB.cells (h : LexB B b t src tv fv ts l1 l2 fr p ln ls n m xs ys w) :
    w.cell? ⟨b, 1, none⟩ = some (.string ⟨#[]⟩) ∧ w.cell? ⟨b, 2, none⟩ = some (.string t) ∧ w.cell? ⟨b, 3, none⟩ = some (.pointer src) ∧ w.cell? ⟨b, 4, none⟩ = some tv ∧ w.cell? ⟨b, 5, none⟩ = some fv ∧ w.cell? ⟨b, 6, none⟩ = some (.int .i64 ts) ∧
    w.cell? ⟨b, 7, none⟩ = some (.int .i64 l1) ∧ w.cell? ⟨b, 8, none⟩ = some (.int .i64 l2) ∧ w.cell? ⟨b, 9, none⟩ = some (.bool fr) ∧ w.cell? ⟨b, 10, none⟩ = some (.int .i64 p) ∧ w.cell? ⟨b, 11, none⟩ = some (.int .i64 ln) ∧ w.cell? ⟨b, 12, none⟩ = some (.int .i64 ls) ∧
    ∀ j, w.frozen? ⟨b, j, none⟩ = false := by
  have hb := h.blk
  unfold lexCells at hb
  refine ⟨?_, ?_, ?_, ?_, ?_, ?_, ?_, ?_, ?_, ?_, ?_, ?_, fun j => ?_⟩ <;> simp [World.cell?, World.frozen?, hb]
end

section
variable {B b : Nat} {t : ByteArray} {p ts n m : Nat} {w w' : World}
theorem LexI.lt (h : LexI B b t p ts n m w) : b < w.heap.size := by obtain ⟨_, _, _, _, _, _, _, _, _, _, h⟩ := h; exact h.lt
theorem LexI.base (h : LexI B b t p ts n m w) : B ≤ b := by obtain ⟨_, _, _, _, _, _, _, _, _, _, h⟩ := h; exact h.hB
theorem LexI.two (h : LexI B b t p ts n m w) : 2 ≤ B := by obtain ⟨_, _, _, _, _, _, _, _, _, _, h⟩ := h; exact h.two
theorem LexI.tabs (h : LexI B b t p ts n m w) : Lib.Utf8Tabs 0 1 w := by obtain ⟨_, _, _, _, _, _, _, _, _, _, h⟩ := h; exact h.tabs
theorem LexI.bounds (h : LexI B b t p ts n m w) : ts ≤ p ∧ p ≤ t.size ∧ t.size ≤ 100000 := by obtain ⟨_, _, _, _, _, _, _, _, _, _, h⟩ := h; exact ⟨h.b1, h.b2, h.b3⟩
theorem LexI.cells (h : LexI B b t p ts n m w) : w.cell? ⟨b, 2, none⟩ = some (.string t) ∧ w.cell? ⟨b, 6, none⟩ = some (.int .i64 ts) ∧ w.cell? ⟨b, 10, none⟩ = some (.int .i64 p) := by
  obtain ⟨_, _, _, _, _, _, _, _, _, _, h⟩ := h
  obtain ⟨_, c2, _, _, _, c6, _, _, _, c10, _⟩ := h.cells
  exact ⟨c2, c6, c10⟩
theorem LexI.old (h : LexI B b t p ts n m w) (hb : Below w.heap.size w w') : LexI B b t p ts n m w' := by obtain ⟨_, _, _, _, _, _, _, _, _, _, h⟩ := h; exact (h.old hb).i
theorem LexI.others (h : LexI B b t p ts n m w) {q : Nat} {c : Array Value} {T : TypeId} {fz : Nat × Nat} (hq1 : w.heap[q]? = some (Obj.cells c T fz)) (hq : T ≠ 69 ∧ T ≠ 100 ∧ T ≠ 84)
    (ho : Lib.OthersKept 5 (some q) w w') (hb : Below B w w') : LexI B b t p ts n m w' := by obtain ⟨_, _, _, _, _, _, _, _, _, _, h⟩ := h; exact (h.others hq1 hq ho hb).i
end

/-- peek: the rune at the place; new blocks alone. -/
def PeekP (B b : Nat) (t : ByteArray) (p ts n m : Nat) (w : World) (e : Ending) (w' : World) : Prop :=
  e = .returned (.int .i32 (rv t p)) ∧ LexI B b t p ts n m w' ∧ Below w.heap.size w w'

set_option maxHeartbeats 1000000 in
theorem peek_any (B b : Nat) (t : ByteArray) (p ts n m : Nat) (w : World) (h : LexI B b t p ts n m w) :
    Calls Tryz.prog 26 #[.pointer (some ⟨b, 0, none⟩)] w (PeekP B b t p ts n m w) := by
  obtain ⟨c2, _, c10⟩ := h.cells
  obtain ⟨_, hp, ht⟩ := h.bounds
  have hlt := h.lt
  have HL := Lib.hid h
  clear h
  by_cases hps : p < t.size
  · have hd : decide ((t.size : Int) ≤ (p : Int)) = false := by simp; omega
    have HD := Lib.hid (decodeGo_tail t p hps)
    have HR := Lib.hid (decode_low t p hps).1
    go_enter Tryz.func26, Tryz.ntmps26
    go_wp2_with fail
    go_quiet (fail)
    go_wp2_with fail
    go_region_held3 (fun w' => w'.cell? ⟨b, 2, none⟩ = some (.string t) ∧ w'.cell? ⟨b, 10, none⟩ = some (.int .i64 p)) (first | go_keep | (go_split_ands; refine ⟨(hb.cell (p := ⟨b, 2, none⟩) (by simpa using hlt)).trans (by simpa using c2), (hb.cell (p := ⟨b, 10, none⟩) (by simpa using hlt)).trans (by simpa using c10)⟩))
      ((go_at_call 49; refine (Tryz.utf8_DecodeRuneInString _ _ ?_).mono ?_; exact HL.out.tabs; rintro e w' ⟨rfl, hb⟩))
    go_wp2_with fail
    go_ret
    have hb' : Below w.heap.size w w' := ⟨hb.os, hb.tape, hb.output, hb.size, hb.block⟩
    exact ⟨by rw [HR.out, ← HD.out]; rfl, HL.out.old hb', hb'⟩
  · have hr := (rv_end t p (by omega)).1
    have HR := Lib.hid hr
    clear hr
    have hd : decide ((t.size : Int) ≤ (p : Int)) = true := by simp; omega
    go_enter Tryz.func26, Tryz.ntmps26
    go_wp2_with fail
    go_quiet (fail)
    go_wp2_with fail
    go_ret
    have hb' : Below w.heap.size w (w.drewN nq) := ⟨rfl, rfl, rfl, Nat.le_refl _, fun _ _ => rfl⟩
    exact ⟨by rw [HR.out]; rfl, HL.out.old hb', hb'⟩

/-- next: the rune at the place; the place is behind it. -/
def NextP (B b : Nat) (t : ByteArray) (p ts n m : Nat) (w : World) (e : Ending) (w' : World) : Prop :=
  e = .returned (.int .i32 (rv t p)) ∧ LexI B b t (nx t p) ts n m w' ∧ w.grownBy w' (some b)

set_option maxHeartbeats 4000000 in
theorem next_any (B b : Nat) (t : ByteArray) (p ts n m : Nat) (w : World) (h : LexI B b t p ts n m w) :
    Calls Tryz.prog 27 #[.pointer (some ⟨b, 0, none⟩)] w (NextP B b t p ts n m w) := by
  obtain ⟨c2, _, c10⟩ := h.cells
  obtain ⟨_, hp, ht⟩ := h.bounds
  have hlt := h.lt
  have HL := Lib.hid h
  clear h
  by_cases hps : p < t.size
  · have hd : decide ((t.size : Int) ≤ (p : Int)) = false := by simp; omega
    have HD := Lib.hid (decodeGo_tail t p hps)
    have HR := Lib.hid (decode_low t p hps)
    go_enter Tryz.func27, Tryz.ntmps27
    go_wp2_with fail
    go_quiet (fail)
    go_wp2_with fail
    go_region_held3 (fun w' => w'.cell? ⟨b, 2, none⟩ = some (.string t) ∧ w'.cell? ⟨b, 10, none⟩ = some (.int .i64 p)) (first | go_keep | (go_split_ands; refine ⟨(hb.cell (p := ⟨b, 2, none⟩) (by simpa using hlt)).trans (by simpa using c2), (hb.cell (p := ⟨b, 10, none⟩) (by simpa using hlt)).trans (by simpa using c10)⟩))
      ((go_at_call 49; refine (Tryz.utf8_DecodeRuneInString _ _ ?_).mono ?_; exact HL.out.tabs; rintro e w' ⟨rfl, hb⟩))
    rw [HD.out]
    have hb' : Below w.heap.size w w' := ⟨hb.os, hb.tape, hb.output, hb.size, hb.block⟩
    obtain ⟨src, tv, fv, l1, l2, ln, ls, fr, xs, ys, HB⟩ := HL.out.old hb'
    have hg' : w.grownBy w' (some b) := ⟨hb.os, hb.tape, hb.output, hb.size, fun k hk _ => hb.block k hk⟩
    have HB' := Lib.hid HB
    obtain ⟨_, _, _, _, _, _, _, _, d9, d10, d11, d12, fz⟩ := HB.cells
    clear HB c2 c10 hb
    have hw1 := Lib.width_pos t p
    have hw2 := nx_le t p hp
    have hr3 := decode_le t p
    rw [HR.out.2] at hw2
    have HE := Lib.hid HR.out.2
    have HV := Lib.hid HR.out.1
    clear HR HD hd
    generalize Utf8.decode t p = d at *
    obtain ⟨r, k⟩ := d
    simp only at hw1 hw2 hr3
    by_cases hr10 : r = 10
    · subst hr10
      have ec : ((p : Int) + (k : Int)) = ((p + k : Nat) : Int) := by omega
      have EC := Lib.hid ec
      clear ec
      go_wp2_with fail
      go_ret
      rw [EC.out]
      refine ⟨by rw [HV.out]; rfl, ?_, Lib.grownBy_setB (Lib.grownBy_setB (Lib.grownBy_setB (Lib.grownBy_setB hg' _ _) _ _) _ _) _ _⟩
      rw [HE.out]
      exact ((((HB'.out.putP (p + k) (by have := HB'.out.b1; omega) (by omega)).putLs _).putLn _).putFr _).i
    · have x10 : ((r : Int) == 10) = false := by simp; omega
      clear hr10
      have ec : ((p : Int) + (k : Int)) = ((p + k : Nat) : Int) := by omega
      have EC := Lib.hid ec
      clear ec
      cases hfr : fr with
      | true =>
        subst hfr
        cases hws : wsB (r : Int) with
        | true =>
          go_wp2_with (go_at_call 48; refine (isWS_any _ _).mono ?_; rintro e w'' ⟨rfl, rfl⟩)
          go_ret
          rw [EC.out]
          refine ⟨by rw [HV.out]; rfl, ?_, Lib.grownBy_setB hg' _ _⟩
          rw [HE.out]
          exact (HB'.out.putP (p + k) (by have := HB'.out.b1; omega) (by omega)).i
        | false =>
          go_wp2_with (go_at_call 48; refine (isWS_any _ _).mono ?_; rintro e w'' ⟨rfl, rfl⟩)
          go_ret
          rw [EC.out]
          refine ⟨by rw [HV.out]; rfl, ?_, Lib.grownBy_setB (Lib.grownBy_setB hg' _ _) _ _⟩
          rw [HE.out]
          exact ((HB'.out.putP (p + k) (by have := HB'.out.b1; omega) (by omega)).putFr _).i
      | false =>
        subst hfr
        go_wp2_with fail
        go_ret
        rw [EC.out]
        refine ⟨by rw [HV.out]; rfl, ?_, Lib.grownBy_setB hg' _ _⟩
        rw [HE.out]
        exact (HB'.out.putP (p + k) (by have := HB'.out.b1; omega) (by omega)).i
  · have hr := rv_end t p (by omega)
    have HR := Lib.hid hr
    clear hr
    have hd : decide ((t.size : Int) ≤ (p : Int)) = true := by simp; omega
    go_enter Tryz.func27, Tryz.ntmps27
    go_wp2_with fail
    go_quiet (fail)
    go_wp2_with fail
    go_ret
    have hb' : Below w.heap.size w (w.drewN nq) := ⟨rfl, rfl, rfl, Nat.le_refl _, fun _ _ => rfl⟩
    exact ⟨by rw [HR.out.1]; rfl, by rw [HR.out.2]; exact HL.out.old hb', ⟨rfl, rfl, rfl, Nat.le_refl _, fun _ _ _ => rfl⟩⟩
end Go.Proofs.YtjjmgnllhihoeaaGreatFmt
