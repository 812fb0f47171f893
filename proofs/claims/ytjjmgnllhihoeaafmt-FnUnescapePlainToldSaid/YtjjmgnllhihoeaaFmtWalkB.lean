/- What the function that compiles out escapes comes to: of whatever text some text and some error or none; of a text without a backslash its runes written anew, and no error. -/
import Derived.Test.YtjjmgnllhihoeaaFmtWalkA
import Derived.Deep.QuietTactic
import Derived.BigQuiet
import Derived.Deep.RegionWith
import Derived.Deep.DrawnRows
import Derived.Lib.BufferOld
import Derived.Lib.BufferKept
import Derived.Lib.OthersKept
import Derived.Lib.TrimU
namespace Go.Proofs.YtjjmgnllhihoeaaFmt
open Go.RowKit Go.Extern.Stop Go.Stop Go.Extern

/-- An error's value: nil, or an interface value. -/
def ErrV (v : Value) : Prop := v = .nilIface ∨ ∃ t x, v = .iface t x

/-- What the call comes to. -/
def Unesc (s : ByteArray) (w : World) (e : Ending) (w' : World) : Prop :=
  ∃ out ev, e = .returned (.tuple #[.string out, ev]) ∧ ErrV ev ∧ (inFirst s 92 s.size = false → out = ⟨(Lib.runesFrom s s.size 0).toArray⟩ ∧ ev = .nilIface) ∧ Below w.heap.size w w'

/-- The loop's relation: at place pos the buffer (block B) holds acc. -/
def Inv (s : ByteArray) (w : World) (pos : Nat) (wr : World) : Prop :=
  ∃ acc : List UInt8, Lib.IsBuffer 40 5 w.heap.size w.heap.size (Lib.byteCells acc) wr ∧ Below w.heap.size w wr ∧ acc.length ≤ 4 * pos ∧
    (inFirst s 92 s.size = false → ∃ fuel, acc ++ Lib.runesFrom s fuel pos = Lib.runesFrom s s.size 0 ∧ s.size ≤ pos + fuel)

theorem inFirst_at (s : ByteArray) (pos : Nat) (h : pos < s.size) (hc : s[pos].toNat = 92) : inFirst s 92 s.size = true := by
  unfold inFirst
  rw [List.any_eq_true, List.take_of_length_le (by rw [← Lib.size_eq]; exact Nat.le_refl _)]
  exact ⟨s[pos], by show s.data[pos] ∈ s.data.toList; simp, by simp [hc]⟩

theorem decode_92 (s : ByteArray) (pos : Nat) (h : pos < s.size) (hc : (Utf8.decode s pos).1 = 92) : inFirst s 92 s.size = true := by
  by_cases ha : s[pos].toNat < 128
  · rw [decode_ascii s pos h ha] at hc
    exact inFirst_at s pos h hc
  · have := (decode_high s pos h (by omega)).1
    omega

theorem inv_plain (s : ByteArray) (w w1 : World) (pos : Nat) (h : pos < s.size) (acc : List UInt8) (hal : acc.length ≤ 4 * pos)
    (hn : inFirst s 92 s.size = false → ∃ fuel, acc ++ Lib.runesFrom s fuel pos = Lib.runesFrom s s.size 0 ∧ s.size ≤ pos + fuel)
    (hI : Lib.IsBuffer 40 5 w.heap.size w.heap.size (Lib.byteCells acc ++ Lib.runeCells ((Utf8.decode s pos).1 : Int)) w1) (hb : Below w.heap.size w w1) :
    Inv s w (pos + (Utf8.decode s pos).2) w1 := by
  have hw1 := Lib.width_pos s pos
  have hl4 := Lib.runeCells_le ((Utf8.decode s pos).1 : Int)
  rw [Lib.runeCells_length] at hl4
  refine ⟨acc ++ Lib.encodeRune (Utf8.decode s pos).1, by rw [Lib.byteCells_append, Lib.byteCells_encodeRune]; exact hI, hb, by simp; omega, fun hh => ?_⟩
  obtain ⟨fuel, h1, h2⟩ := hn hh
  obtain ⟨f, rfl⟩ : ∃ f, fuel = f + 1 := ⟨fuel - 1, by omega⟩
  exact ⟨f, by rw [← h1]; simp [Lib.runesFrom, h], by omega⟩

theorem inv_any (s : ByteArray) (w w1 : World) (pos pos' : Nat) (hbs : inFirst s 92 s.size = true) (acc : List UInt8) (hal : acc.length ≤ 4 * pos) (hp : pos < pos') (r : Int)
    (hI : Lib.IsBuffer 40 5 w.heap.size w.heap.size (Lib.byteCells acc ++ Lib.runeCells r) w1) (hb : Below w.heap.size w w1) : Inv s w pos' w1 := by
  have hl4 := Lib.runeCells_le r
  rw [Lib.runeCells_length] at hl4
  exact ⟨acc ++ Lib.encodeRune r, by rw [Lib.byteCells_append, Lib.byteCells_encodeRune]; exact hI, hb, by simp; omega, fun hh => by rw [hbs] at hh; cases hh⟩

/-- What the walk asks of a world: the library's tables, its error, the place. -/
def Env (bl : Nat) (a : Addr) (w : World) : Prop :=
  Lib.Utf8Tabs 0 1 w ∧ w.cell? ⟨3, 0, none⟩ = some (.iface 73 (.pointer (some a))) ∧ 3 < w.heap.size ∧
    w.heap[bl]? = some (.cells #[.pointer none, .string ⟨#[]⟩, .int .i64 0, .int .i64 0, .int .i64 0, .int .i64 0] 35 (0, 0)) ∧ bl < w.heap.size

theorem Env.below {bl : Nat} {a : Addr} {w w' : World} (h : Env bl a w) (hb : Below w.heap.size w w') : Env bl a w' := by
  obtain ⟨h1, h2, h3, h4, h5⟩ := h
  exact ⟨Utf8Tabs_below h1 hb, by rw [hb.cell h3]; exact h2, Nat.lt_of_lt_of_le h3 hb.size, by rw [hb.block bl h5]; exact h4, Nat.lt_of_lt_of_le h5 hb.size⟩

theorem unesc_err {s : ByteArray} {w w' : World} {t : TypeId} {x : Value} (h : inFirst s 92 s.size = true) (hb : Below w.heap.size w w') : Unesc s w (.returned (.tuple #[.string ⟨#[]⟩, .iface t x])) w' :=
  ⟨_, _, rfl, Or.inr ⟨_, _, rfl⟩, (fun hh => by rw [h] at hh; cases hh), hb⟩

theorem Env.cells {bl : Nat} {a : Addr} {w : World} (h : Env bl a w) : w.cell? ⟨bl, 0, none⟩ = some (.pointer none) ∧ w.cell? ⟨bl, 1, none⟩ = some (.string ⟨#[]⟩) ∧ w.cell? ⟨bl, 2, none⟩ = some (.int .i64 0) ∧
    w.cell? ⟨bl, 3, none⟩ = some (.int .i64 0) ∧ w.cell? ⟨bl, 4, none⟩ = some (.int .i64 0) ∧ w.cell? ⟨bl, 5, none⟩ = some (.int .i64 0) := by
  obtain ⟨_, _, _, h4, _⟩ := h
  refine ⟨?_, ?_, ?_, ?_, ?_, ?_⟩ <;> simp [World.cell?, h4]

/-- Behind new blocks over a later world. -/
theorem below_of_new {B : Nat} {a b c : World} (h : Below b.heap.size b c) (hB : B ≤ a.heap.size) (hab : Below a.heap.size a b) : Below B a c := (hab.mono hB).trans (h.mono (Nat.le_trans hB hab.size))

set_option maxHeartbeats 12800000 in
set_option maxRecDepth 100000 in
theorem StringUnescape_any (F : Interp) (bl : Nat) (a : Addr) (s : ByteArray) (w : World) (hs : s.size ≤ 2000) (hF : F.answers w.tape) (hV : Env bl a w) :
    Calls Tryf.prog 7 #[.pointer (some ⟨bl, 0, none⟩), .string s] w (Unesc s w) := by
  have HV := Lib.hid hV
  clear hV
  go_enter Tryf.func7, Tryf.ntmps7
  go_wp2_with fail
  go_loopw [7] (fun i wr => ∃ pos : Nat, pos ≤ s.size ∧ i = .int .i64 pos ∧ Inv s w pos wr) (fun i _ => s.size - (intOf i).toNat)
  case atStart =>
    refine ⟨0, by omega, rfl, [], Lib.fresh_isBuffer 40 5 w, (Below.refl _ w).alloc (Nat.le_refl _) _, by simp, fun _ => ⟨s.size, rfl, by omega⟩⟩
  case round =>
    obtain ⟨pos, hp, rfl, acc, hI, hbw, hal, hn⟩ := hrel
    have HI := Lib.hid hI
    have HN := Lib.hid hn
    clear hI hn
    by_cases hlt : pos < s.size
    · have HD := Lib.hid (decodeGo_tail s pos hlt)
      have hw1 := Lib.width_pos s pos
      have hw2 := decode_le_left s pos hlt
      have hr := decode_le s pos
      have H92 := Lib.hid (decode_92 s pos hlt)
      have HP := Lib.hid (inv_plain s w · pos hlt acc hal HN.out)
      generalize Utf8.decode s pos = d at HD hw1 hw2 hr H92 HP
      obtain ⟨r, k⟩ := d
      simp only at hw1 hw2 hr
      go_wp2_with fail
      refine (Tryf.utf8_DecodeRuneInString _ _ (HV.out.below hbw).1).mono ?_
      rintro e w1 ⟨rfl, b1⟩
      rw [HD.out]
      by_cases hr92 : r = 92
      · subst hr92
        have hbs := H92.out rfl
        have HB := Lib.hid hbs
        have HB0 := Lib.hid hbs
        have HQ := Lib.hid (fun w1 pos' => inv_any s w w1 pos pos' hbs acc hal)
        clear hbs H92 HP
        have hV1 := HV.out.below (hbw.trans (b1.mono hbw.size))
        have hsz : w.heap.size ≤ w1.heap.size := Nat.le_trans hbw.size b1.size
        obtain ⟨c0, c1, c2, c3, c4, c5⟩ := hV1.cells
        have HV1 := Lib.hid hV1
        clear hV1
        by_cases hl2 : pos + k < s.size
        · have HD2 := Lib.hid (decodeGo_tail s (pos + k) hl2)
          have hv1 := Lib.width_pos s (pos + k)
          have hv2 := decode_le_left s (pos + k) hl2
          have hr2 := decode_le s (pos + k)
          generalize Utf8.decode s (pos + k) = d2 at HD2 hv1 hv2 hr2
          obtain ⟨r2, k2⟩ := d2
          simp only at hv1 hv2 hr2
          clear c0 c1 c2 c3 c4 c5
          go_wp2_with fail
          refine (Tryf.utf8_DecodeRuneInString _ _ HV1.out.1).mono ?_
          rintro e w2 ⟨rfl, b2⟩
          rw [HD2.out]
          have hb12 : Below w.heap.size w w2 := (hbw.trans (b1.mono hbw.size)).trans (b2.mono hsz)
          have hsz2 : w.heap.size ≤ w2.heap.size := hb12.size
          have hI2 := Lib.hid ((HI.out.old b1).old b2)
          by_cases e34 : r2 = 34
          · as_aux_lemma =>
              subst e34
              go_wp2_with (go_at_call 11; refine (Tryf.Buffer_WriteRune_k w.heap.size w.heap.size _ _ (by omega) (by omega) _ hI2.out hsz2 (Lib.byteCells_one _) (by rw [Lib.byteCells_length]; omega)).mono ?_; rintro e W1 ⟨rfl, h1, b9, _⟩)
              go_roundw
              case rel => exact ⟨pos + k + k2, by omega, by go_num, HQ.out W1 _ (by omega) 34 h1 (hb12.trans b9)⟩
              case measure => simp [intOf]; omega
          by_cases e39 : r2 = 39
          · as_aux_lemma =>
              subst e39
              go_wp2_with (go_at_call 11; refine (Tryf.Buffer_WriteRune_k w.heap.size w.heap.size _ _ (by omega) (by omega) _ hI2.out hsz2 (Lib.byteCells_one _) (by rw [Lib.byteCells_length]; omega)).mono ?_; rintro e W1 ⟨rfl, h1, b9, _⟩)
              go_roundw
              case rel => exact ⟨pos + k + k2, by omega, by go_num, HQ.out W1 _ (by omega) 39 h1 (hb12.trans b9)⟩
              case measure => simp [intOf]; omega
          by_cases e92 : r2 = 92
          · as_aux_lemma =>
              subst e92
              go_wp2_with (go_at_call 11; refine (Tryf.Buffer_WriteRune_k w.heap.size w.heap.size _ _ (by omega) (by omega) _ hI2.out hsz2 (Lib.byteCells_one _) (by rw [Lib.byteCells_length]; omega)).mono ?_; rintro e W1 ⟨rfl, h1, b9, _⟩)
              go_roundw
              case rel => exact ⟨pos + k + k2, by omega, by go_num, HQ.out W1 _ (by omega) 92 h1 (hb12.trans b9)⟩
              case measure => simp [intOf]; omega
          by_cases e47 : r2 = 47
          · as_aux_lemma =>
              subst e47
              go_wp2_with (go_at_call 11; refine (Tryf.Buffer_WriteRune_k w.heap.size w.heap.size _ _ (by omega) (by omega) _ hI2.out hsz2 (Lib.byteCells_one _) (by rw [Lib.byteCells_length]; omega)).mono ?_; rintro e W1 ⟨rfl, h1, b9, _⟩)
              go_roundw
              case rel => exact ⟨pos + k + k2, by omega, by go_num, HQ.out W1 _ (by omega) 47 h1 (hb12.trans b9)⟩
              case measure => simp [intOf]; omega
          by_cases e98 : r2 = 98
          · as_aux_lemma =>
              subst e98
              go_wp2_with (go_at_call 11; refine (Tryf.Buffer_WriteRune_k w.heap.size w.heap.size _ _ (by omega) (by omega) _ hI2.out hsz2 (Lib.byteCells_one _) (by rw [Lib.byteCells_length]; omega)).mono ?_; rintro e W1 ⟨rfl, h1, b9, _⟩)
              go_roundw
              case rel => exact ⟨pos + k + k2, by omega, by go_num, HQ.out W1 _ (by omega) 8 h1 (hb12.trans b9)⟩
              case measure => simp [intOf]; omega
          by_cases e102 : r2 = 102
          · as_aux_lemma =>
              subst e102
              go_wp2_with (go_at_call 11; refine (Tryf.Buffer_WriteRune_k w.heap.size w.heap.size _ _ (by omega) (by omega) _ hI2.out hsz2 (Lib.byteCells_one _) (by rw [Lib.byteCells_length]; omega)).mono ?_; rintro e W1 ⟨rfl, h1, b9, _⟩)
              go_roundw
              case rel => exact ⟨pos + k + k2, by omega, by go_num, HQ.out W1 _ (by omega) 12 h1 (hb12.trans b9)⟩
              case measure => simp [intOf]; omega
          by_cases e110 : r2 = 110
          · as_aux_lemma =>
              subst e110
              go_wp2_with (go_at_call 11; refine (Tryf.Buffer_WriteRune_k w.heap.size w.heap.size _ _ (by omega) (by omega) _ hI2.out hsz2 (Lib.byteCells_one _) (by rw [Lib.byteCells_length]; omega)).mono ?_; rintro e W1 ⟨rfl, h1, b9, _⟩)
              go_roundw
              case rel => exact ⟨pos + k + k2, by omega, by go_num, HQ.out W1 _ (by omega) 10 h1 (hb12.trans b9)⟩
              case measure => simp [intOf]; omega
          by_cases e114 : r2 = 114
          · as_aux_lemma =>
              subst e114
              go_wp2_with (go_at_call 11; refine (Tryf.Buffer_WriteRune_k w.heap.size w.heap.size _ _ (by omega) (by omega) _ hI2.out hsz2 (Lib.byteCells_one _) (by rw [Lib.byteCells_length]; omega)).mono ?_; rintro e W1 ⟨rfl, h1, b9, _⟩)
              go_roundw
              case rel => exact ⟨pos + k + k2, by omega, by go_num, HQ.out W1 _ (by omega) 13 h1 (hb12.trans b9)⟩
              case measure => simp [intOf]; omega
          by_cases e116 : r2 = 116
          · as_aux_lemma =>
              subst e116
              go_wp2_with (go_at_call 11; refine (Tryf.Buffer_WriteRune_k w.heap.size w.heap.size _ _ (by omega) (by omega) _ hI2.out hsz2 (Lib.byteCells_one _) (by rw [Lib.byteCells_length]; omega)).mono ?_; rintro e W1 ⟨rfl, h1, b9, _⟩)
              go_roundw
              case rel => exact ⟨pos + k + k2, by omega, by go_num, HQ.out W1 _ (by omega) 9 h1 (hb12.trans b9)⟩
              case measure => simp [intOf]; omega
          have x34 : ((r2 : Int) == 34) = false := by simp; omega
          have x39 : ((r2 : Int) == 39) = false := by simp; omega
          have x92 : ((r2 : Int) == 92) = false := by simp; omega
          have x47 : ((r2 : Int) == 47) = false := by simp; omega
          have x98 : ((r2 : Int) == 98) = false := by simp; omega
          have x102 : ((r2 : Int) == 102) = false := by simp; omega
          have x110 : ((r2 : Int) == 110) = false := by simp; omega
          have x114 : ((r2 : Int) == 114) = false := by simp; omega
          have x116 : ((r2 : Int) == 116) = false := by simp; omega
          have hF2 : F.answers w2.tape := by rw [hb12.tape]; exact hF
          have HF2 := Lib.hid hF2
          have HV2 := Lib.hid (HV.out.below hb12)
          clear hF2
          by_cases e117 : r2 = 117
          · as_aux_lemma =>
              subst e117
              by_cases hl3 : pos + k + k2 + 4 ≤ s.size
              · have ht : (s.extract (pos + k + k2) (pos + k + k2 + 4)).size = 4 := by
                  rw [ByteArray.size_extract]; omega
                have HT := Lib.hid ht
                clear ht
                go_wp2_with fail
                refine (Hex4_any _ _ a HT.out HV2.out.2.1).mono ?_
                rintro e w3 ⟨b3, hex⟩
                have hb13 : Below w.heap.size w w3 := hb12.trans (b3.mono hsz2)
                have hsz3 : w.heap.size ≤ w3.heap.size := hb13.size
                rcases hex with ⟨v, t, x, rfl⟩ | ⟨g, cap, x, y, rfl, g0, g1, x0, x1, y0, y1⟩
                · as_aux_lemma =>
                    have hF3 : F.answers w3.tape := by rw [hb13.tape]; exact hF
                    have hF3' := answers_open hF3
                    have hV3 := HV.out.below hb13
                    obtain ⟨c0, c1, c2, c3, c4, c5⟩ := hV3.cells
                    have hbl := hV3.2.2.2.2
                    have hbl1 : bl < w3.heap.size + 1 := by omega
                    clear HQ HN HD HD2 hI2 HF2 hF3 hV3
                    go_wp2_with fail
                    go_region_with (go_at_call 10; refine (MakeStaticError_any _ _).mono ?_; rintro e W1 ⟨t, x, rfl, b9⟩)
                    all_goals
                      go_wp2
                      go_ret2
                      exact unesc_err HB0.out (hb13.trans (below_of_new b9 hsz3 (by repeat (first | exact Below.refl _ _ | refine Below.drew ?_ | refine Below.alloc ?_ (Nat.le_refl _) _))))
                · have hI3 := Lib.hid (hI2.out.old b3)
                  go_wp2_with fail
                  go_quiet (fail)
                  go_wp2_with fail
                  refine (IsSurrogate_any _ _).mono ?_
                  rintro e w4 ⟨b, rfl, rfl⟩
                  have hbq : Below w.heap.size w (w3.drewN nq) := ⟨hb13.os, hb13.tape, hb13.output, hb13.size, hb13.block⟩
                  have hszq : w.heap.size ≤ (w3.drewN nq).heap.size := hsz3
                  cases b
                  · as_aux_lemma =>
                      clear g0 g1
                      go_wp2_with (go_at_call 11; refine (Tryf.Buffer_WriteRune_k w.heap.size w.heap.size _ _ (by omega) (by omega) _ (hI3.out.drewN nq) hszq (Lib.byteCells_one _) (by rw [Lib.byteCells_length]; omega)).mono ?_; rintro e W1 ⟨rfl, h1, b9, _⟩)
                      go_roundw
                      case rel => exact ⟨pos + k + k2 + 4, by omega, by go_num, HQ.out W1 _ (by omega) _ h1 (hbq.trans b9)⟩
                      case measure => simp [intOf]; omega
                  · clear g0 g1
                    have HVq := Lib.hid (HV.out.below hbq)
                    obtain ⟨c0, c1, c2, c3, c4, c5⟩ := HVq.out.cells
                    by_cases hl4 : pos + k + k2 + 4 + 6 ≤ s.size
                    · have HT2 : Hid ((s.extract (pos + k + k2 + 4 + 2) (pos + k + k2 + 4 + 2 + 4)).size = 4) := Lib.hid (by rw [ByteArray.size_extract]; omega)
                      have hIq := Lib.hid (hI3.out.drewN nq)
                      clear hI3 hI2 b3 hb13 HV2 HF2
                      generalize w3.drewN nq = wq at *
                      go_wp2_with fail
                      · as_aux_lemma =>
                          refine (MakeStaticError_any _ _).mono ?_
                          rintro e W1 ⟨t, x, rfl, b9⟩
                          go_wp2
                          go_ret2
                          exact unesc_err HB0.out (hbq.trans (b9.mono hszq))
                      · refine (Hex4_any _ _ a HT2.out HVq.out.2.1).mono ?_
                        rintro e w5 ⟨b5, hex⟩
                        have hb15 : Below w.heap.size w w5 := hbq.trans (b5.mono hszq)
                        have hsz5 : w.heap.size ≤ w5.heap.size := hb15.size
                        clear c0 c1 c2 c3 c4 c5
                        rcases hex with ⟨v, t, x', rfl⟩ | ⟨g2, cap2, xx, yy, rfl, p0, p1, xx0, xx1, yy0, yy1⟩
                        · as_aux_lemma =>
                            have hF5 : F.answers w5.tape := by rw [hb15.tape]; exact hF
                            have hF5' := answers_open hF5
                            have hV5 := HV.out.below hb15
                            obtain ⟨c0, c1, c2, c3, c4, c5⟩ := hV5.cells
                            have hbl := hV5.2.2.2.2
                            have hbl1 : bl < w5.heap.size + 1 := by omega
                            clear HQ HN HD HD2 hIq hF5 hV5 HVq
                            go_wp2_with fail
                            go_region_with (go_at_call 10; refine (MakeStaticError_any _ _).mono ?_; rintro e W1 ⟨t, x, rfl, b9⟩)
                            all_goals
                              go_wp2
                              go_ret2
                              exact unesc_err HB0.out (hb15.trans (below_of_new b9 hsz5 (by repeat (first | exact Below.refl _ _ | refine Below.drew ?_ | refine Below.alloc ?_ (Nat.le_refl _) _))))
                        · as_aux_lemma =>
                            have hI5 := Lib.hid (hIq.out.old b5)
                            clear hIq b5
                            go_wp2_with fail
                            go_quiet (fail)
                            go_wp2_with fail
                            refine (DecodeRune_any _ _ _).mono ?_
                            rintro e w6 ⟨r3, rfl, l3, u3, rfl⟩
                            have hb6 : Below w.heap.size w (w5.drewN nq) := ⟨hb15.os, hb15.tape, hb15.output, hb15.size, hb15.block⟩
                            have hsz6 : w.heap.size ≤ (w5.drewN nq).heap.size := hsz5
                            clear p0 p1
                            go_wp2_with (go_at_call 11; refine (Tryf.Buffer_WriteRune_k w.heap.size w.heap.size _ _ (by omega) (by omega) _ (hI5.out.drewN nq) hsz6 (Lib.byteCells_one _) (by rw [Lib.byteCells_length]; omega)).mono ?_; rintro e W1 ⟨rfl, h1, b9, _⟩)
                            go_roundw
                            case rel => exact ⟨pos + k + k2 + 4 + 2 + 4, by omega, by go_num, HQ.out W1 _ (by omega) _ h1 (hb6.trans b9)⟩
                            case measure => simp [intOf]; omega
                    · as_aux_lemma =>
                        go_wp2_with (go_at_call 10; refine (MakeStaticError_any _ _).mono ?_; rintro e W1 ⟨t, x, rfl, b9⟩)
                        go_ret2
                        exact unesc_err HB0.out (hbq.trans (b9.mono hszq))
              · as_aux_lemma =>
                  obtain ⟨c0, c1, c2, c3, c4, c5⟩ := HV2.out.cells
                  go_wp2_with (go_at_call 10; refine (MakeStaticError_any _ _).mono ?_; rintro e W1 ⟨t, x, rfl, b9⟩)
                  go_ret2
                  exact unesc_err HB0.out (hb12.trans (b9.mono hsz2))
          · have x117 : ((r2 : Int) == 117) = false := by simp; omega
            as_aux_lemma =>
              have hF2' := answers_open HF2.out
              obtain ⟨c0, c1, c2, c3, c4, c5⟩ := HV2.out.cells
              have hbl := HV2.out.2.2.2.2
              have hbl1 : bl < w2.heap.size + 1 := by omega
              clear HQ HN HD HD2 hI2 HF2
              go_wp2_with fail
              go_region_with (go_at_call 10; refine (MakeStaticError_any _ _).mono ?_; rintro e W1 ⟨t, x, rfl, b9⟩)
              all_goals
                go_wp2
                go_ret2
                exact unesc_err HB0.out (hb12.trans (below_of_new b9 hsz2 (by repeat (first | exact Below.refl _ _ | refine Below.drew ?_ | refine Below.alloc ?_ (Nat.le_refl _) _))))
        · as_aux_lemma =>
            clear HQ HB HN
            go_wp2_with (go_at_call 10; refine (MakeStaticError_any _ _).mono ?_; rintro e W1 ⟨t, x, rfl, b3⟩)
            go_ret2
            exact unesc_err HB0.out ((hbw.trans (b1.mono hbw.size)).trans (b3.mono hsz))
      · as_aux_lemma =>
          have hb : ((r : Int) == 92) = false := by simp; omega
          have hsz : w.heap.size ≤ w1.heap.size := Nat.le_trans hbw.size b1.size
          go_wp2_with (go_at_call 11; refine (Tryf.Buffer_WriteRune_k w.heap.size w.heap.size _ _ (by omega) (by omega) _ (HI.out.old b1) hsz (Lib.byteCells_one _) (by rw [Lib.byteCells_length]; omega)).mono ?_; rintro e W1 ⟨rfl, h1, b2, _⟩)
          go_roundw
          case rel => exact ⟨pos + k, by omega, by go_num, HP.out W1 h1 ((hbw.trans (b1.mono hbw.size)).trans b2)⟩
          case measure => simp [intOf]; omega
    · as_aux_lemma =>
        have hps : s.size = pos := by omega
        have HE := Lib.hid hps
        clear hps
        go_wp2_with (go_at_call 16; refine (Tryf.Buffer_String w.heap.size w.heap.size acc wr HI.out).mono ?_; rintro e W1 ⟨rfl, n, rfl⟩)
        go_ret2
        refine ⟨_, _, rfl, Or.inl rfl, fun hh => ?_, hbw.trans ⟨rfl, rfl, rfl, Nat.le_refl _, fun _ _ => rfl⟩⟩
        obtain ⟨fuel, h1, _⟩ := HN.out hh
        rw [Lib.runesFrom_end s fuel pos (by omega), List.append_nil] at h1
        exact ⟨by rw [h1], rfl⟩
end Go.Proofs.YtjjmgnllhihoeaaFmt
