/- lexSymbol at a block of text. -/
import Derived.Test.YtjjmgnllhihoeaaGreatFmtSymB
import Derived.Test.YtjjmgnllhihoeaaGreatFmtCheck
import Derived.Test.YtjjmgnllhihoeaaGreatFmtChain
set_option linter.unusedSimpArgs false
set_option linter.unusedVariables false
namespace Go.Proofs.YtjjmgnllhihoeaaGreatFmt
open Go.RowKit
attribute [local go_sem ↓] Go.wp_at_zero Go.wp_at_succ

/-- One token more, the next begins at j. -/
def TokP (B b : Nat) (t : ByteArray) (j n : Nat) (w : World) (e : Ending) (w' : World) : Prop := e = .returned .nilIface ∧ LexI B b t j j (n + 1) 0 w' ∧ Below B w w'

theorem extract_toList (t : ByteArray) (p : Nat) : (t.extract p t.size).data.toList = t.data.toList.drop p := by
  have ht : (t.data.toList.drop p).length ≤ t.size - p := by rw [List.length_drop, ← Lib.size_eq]; exact Nat.le_refl _
  rw [Lib.extract_data, List.take_of_length_le ht]

theorem prefix_drop (t : ByteArray) : ∀ (l : List UInt8) (p : Nat), l.isPrefixOf (t.data.toList.drop p) = true ↔ ∀ i (hi : i < l.length), ch t (p + i) = l[i].toNat
  | [], p => by simp
  | a :: l, p => by
    by_cases h : p < t.size
    · have h' : p < t.data.toList.length := by rw [← Lib.size_eq]; exact h
      rw [List.drop_eq_getElem_cons h']
      simp only [List.isPrefixOf, Bool.and_eq_true, beq_iff_eq]
      rw [prefix_drop t l (p + 1)]
      have hc : ch t p = (t.data.toList[p]).toNat := by
        rw [ch_in t p h]; rfl
      constructor
      · rintro ⟨h1, h2⟩ i hi
        cases i with
        | zero => rw [Nat.add_zero, hc, ← h1]; rfl
        | succ i => have := h2 i (by simpa using hi); rw [show p + (i + 1) = p + 1 + i by omega]; simpa using this
      · intro h2
        refine ⟨?_, fun i hi => ?_⟩
        · have h3 := h2 0 (by simp)
          rw [Nat.add_zero, hc] at h3
          exact (UInt8.toNat_inj.1 h3).symm
        · have h3 := h2 (i + 1) (by simpa using hi)
          rw [show p + 1 + i = p + (i + 1) by omega]; simpa using h3
    · have h' : t.data.toList.drop p = [] := List.drop_eq_nil_of_le (by rw [← Lib.size_eq]; omega)
      rw [h']
      constructor
      · intro h1; simp [List.isPrefixOf] at h1
      · intro h1
        have h3 := h1 0 (by simp)
        rw [Nat.add_zero, ch_out t p (by omega)] at h3
        have := (a :: l)[0].toNat_lt
        omega

theorem prefix_iff (t : ByteArray) (p : Nat) (l : List UInt8) : Lib.hasPrefix (t.extract p t.size).data.toList l = true ↔ ∀ i (hi : i < l.length), ch t (p + i) = l[i].toNat := by
  unfold Lib.hasPrefix
  rw [extract_toList]
  exact prefix_drop t l p

theorem prefix_2 (t : ByteArray) (p : Nat) : Lib.hasPrefix (t.extract p t.size).data.toList [124, 124] = true ↔ ch t p = 124 ∧ ch t (p + 1) = 124 := by
  rw [prefix_iff]
  constructor
  · intro h; exact ⟨by simpa using h 0 (by simp), by simpa using h 1 (by simp)⟩
  · rintro ⟨h1, h2⟩ i hi
    have : i = 0 ∨ i = 1 := by simp at hi; omega
    rcases this with rfl | rfl
    · simpa using h1
    · simpa using h2
theorem prefix_3 (t : ByteArray) (p : Nat) : Lib.hasPrefix (t.extract p t.size).data.toList [124, 124, 124] = true ↔ ch t p = 124 ∧ ch t (p + 1) = 124 ∧ ch t (p + 2) = 124 := by
  rw [prefix_iff]
  constructor
  · intro h; exact ⟨by simpa using h 0 (by simp), by simpa using h 1 (by simp), by simpa using h 2 (by simp)⟩
  · rintro ⟨h1, h2, h3⟩ i hi
    have : i = 0 ∨ i = 1 ∨ i = 2 := by simp at hi; omega
    rcases this with rfl | rfl | rfl
    · simpa using h1
    · simpa using h2
    · simpa using h3
theorem prefix_1 (t : ByteArray) (p : Nat) (x : UInt8) : Lib.hasPrefix (t.extract p t.size).data.toList [x] = true ↔ ch t p = x.toNat := by
  rw [prefix_iff]
  constructor
  · intro h; simpa using h 0 (by simp)
  · intro h1 i hi
    have : i = 0 := by simp at hi; omega
    subst this
    simpa using h1


/-- The walk's spelling of a prefix of what is left. -/
theorem hp_sp (t : ByteArray) (p : Nat) (l : List UInt8) : Lib.hasPrefix (List.take (t.size - p) (List.drop p t.data.toList)) l = Lib.hasPrefix (t.extract p t.size).data.toList l := by rw [Lib.extract_data]
theorem hp2_t {t : ByteArray} {p : Nat} (h1 : ch t p = 124) (h2 : ch t (p + 1) = 124) : Lib.hasPrefix (List.take (t.size - p) (List.drop p t.data.toList)) [124, 124] = true := by rw [hp_sp]; exact (prefix_2 t p).2 ⟨h1, h2⟩
theorem hp3_t {t : ByteArray} {p : Nat} (h1 : ch t p = 124) (h2 : ch t (p + 1) = 124) (h3 : ch t (p + 2) = 124) : Lib.hasPrefix (List.take (t.size - p) (List.drop p t.data.toList)) [124, 124, 124] = true := by rw [hp_sp]; exact (prefix_3 t p).2 ⟨h1, h2, h3⟩

/-- The lines of a block, seen from the head of a line that is one. -/
def Line (c : Nat → Nat) (q0 nn k j : Nat) : Prop := c k ≠ 10 ∧ Pre c q0 nn k ∧ ∃ e, k + nn ≤ e ∧ (∀ m, k + nn ≤ m → m < e → c m ≠ 10 ∧ c m ≠ 256) ∧ c e = 10 ∧ Blk c q0 nn (e + 1) j

theorem ch_ext (t : ByteArray) (p : Nat) (i : Nat) : ch (t.extract p t.size) i = ch t (p + i) := by
  have hs : (t.extract p t.size).size = t.size - p := by simp
  by_cases h : p + i < t.size
  · rw [ch_in _ i (by omega), ch_in t (p + i) h]
    simp [ByteArray.getElem_extract]
  · rw [ch_out _ i (by omega), ch_out t _ (by omega)]

theorem check_self {a : ByteArray} {p nn i r : Nat} (hin : ∀ k, p ≤ k → k < p + nn → Bl (ch a k)) (hend : ¬ Bl (ch a (p + nn)))
    (h1 : ∀ k, k < i → Bl (ch (a.extract p a.size) k) ∧ ch (a.extract p a.size) k = ch (a.extract p a.size) k)
    (h2 : (r = i ∧ ¬ Bl (ch (a.extract p a.size) i)) ∨ (r = 0 ∧ Bl (ch (a.extract p a.size) i) ∧ ch (a.extract p a.size) i ≠ ch (a.extract p a.size) i)) : r = nn := by
  rcases h2 with ⟨rfl, h2⟩ | ⟨_, _, h3⟩
  · rw [ch_ext] at h2
    rcases Nat.lt_trichotomy r nn with h4 | h4 | h4
    · exact absurd (hin (p + r) (by omega) (by omega)) h2
    · exact h4
    · have := (h1 nn h4).1
      rw [ch_ext] at this
      exact absurd this hend
  · exact absurd rfl h3

theorem check_ind {a : ByteArray} {q p nn i r : Nat} (hq : q + nn ≤ a.size) (hin : ∀ k, q ≤ k → k < q + nn → Bl (ch a k))
    (h1 : ∀ k, k < i → Bl (ch (a.extract q (q + nn)) k) ∧ ch (a.extract p a.size) k = ch (a.extract q (q + nn)) k)
    (h2 : (r = i ∧ ¬ Bl (ch (a.extract q (q + nn)) i)) ∨ (r = 0 ∧ Bl (ch (a.extract q (q + nn)) i) ∧ ch (a.extract p a.size) i ≠ ch (a.extract q (q + nn)) i)) :
    (Pre (ch a) q nn p → r = nn) ∧ (¬ Pre (ch a) q nn p → r = 0) := by
  have hs : (a.extract q (q + nn)).size = nn := by simp; omega
  have hi : i ≤ nn := by
    rcases Nat.lt_or_ge nn i with h | h
    · have := (h1 nn h).1
      rw [ch_out _ nn (by omega)] at this
      unfold Bl at this; omega
    · exact h
  have e1 : ∀ k, k < nn → ch (a.extract q (q + nn)) k = ch a (q + k) := fun k hk => ch_ext2 a q _ k (by omega) hq
  rcases h2 with ⟨rfl, h2⟩ | ⟨rfl, h2, h3⟩
  · have : r = nn := by
      rcases Nat.lt_or_ge r nn with h | h
      · rw [e1 r h] at h2
        exact absurd (hin (q + r) (by omega) (by omega)) h2
      · omega
    subst this
    refine ⟨fun _ => rfl, fun hn => absurd (fun k hk => ?_) hn⟩
    have := (h1 k hk).2
    rw [ch_ext, e1 k hk] at this
    exact this
  · have hil : i < nn := by
      rcases Nat.lt_or_ge i nn with h | h
      · exact h
      · rw [ch_out _ i (by omega)] at h2
        unfold Bl at h2; omega
    refine ⟨fun hp => absurd ?_ h3, fun _ => rfl⟩
    rw [ch_ext, e1 i hil]
    exact hp i hil

theorem Blk.atLine {c : Nat → Nat} {q nn k j : Nat} (h : Blk c q nn k j) (h10 : c k ≠ 10) (hp : Pre c q nn k) : Line c q nn k j := by
  cases h with
  | nl _ _ h1 => exact absurd h1 h10
  | line _ e _ _ _ h2 h3 h4 h5 => exact ⟨h10, hp, e, h2, h3, h4, h5⟩
  | fin _ e _ h1 => exact absurd hp h1

theorem Blk.atFin {c : Nat → Nat} {q nn k j : Nat} (h : Blk c q nn k j) (h10 : c k ≠ 10) (hp : ¬ Pre c q nn k) : ∃ e, j = e + 3 ∧ k ≤ e ∧ (∀ m, k ≤ m → m < e → Bl (c m)) ∧ c e = 124 ∧ c (e + 1) = 124 ∧ c (e + 2) = 124 := by
  cases h with
  | nl _ _ h1 => exact absurd h1 h10
  | line _ e _ _ h1 => exact absurd h1 hp
  | fin _ e _ _ h2 h3 h4 h5 h6 => exact ⟨e, rfl, h2, h3, h4, h5, h6⟩

theorem Blk.atNl {c : Nat → Nat} {q nn k j : Nat} (h : Blk c q nn k j) (h10 : c k = 10) : Blk c q nn (k + 1) j := by
  cases h with
  | nl _ _ _ h2 => exact h2
  | line _ e _ h1 => exact absurd h10 h1
  | fin _ e h1 => exact absurd h10 h1

set_option maxRecDepth 100000 in
set_option maxHeartbeats 6400000 in
theorem symBlock_any (B b : Nat) (t : ByteArray) (p a q0 nn j n m : Nat) (w : World) (h : LexI B b t p p n m w) (hn : n ≤ 200000) (h1 : ch t p = 124) (h2 : ch t (p + 1) = 124) (h3 : ch t (p + 2) = 124) (ha : p + 3 ≤ a)
    (hb : ∀ k, p + 3 ≤ k → k < a → Bl (ch t k)) (h10 : ch t a = 10) (hq : a < q0) (hnl : ∀ k, a ≤ k → k < q0 → ch t k = 10) (hnn : 0 < nn) (hin : ∀ k, q0 ≤ k → k < q0 + nn → Bl (ch t k)) (hend : ¬ Bl (ch t (q0 + nn))) (hblk : Blk (ch t) q0 nn q0 j) :
    Calls Tryz.prog 39 #[.pointer (some ⟨b, 0, none⟩)] w (TokP B b t j n w) := by
  obtain ⟨src, tv, fv, l1, l2, ln, ls, fr, xs, ys, h⟩ := h
  have d9 := h.cells.2.2.2.2.2.2.2.2.1
  have H0 := Lib.hid h.i
  have hps := h.b2
  obtain ⟨hr1, hx1, hl1⟩ := rv_low t p (by omega)
  rw [h1] at hr1
  have HR1 : Hid (rv t p = 124) := Lib.hid hr1
  have HX1 : Hid (nx t p = p + 1) := Lib.hid hx1
  have hl3 : p + 2 < t.size := ch_ne (by omega)
  have HB := Lib.hid hb
  have HNL := Lib.hid hnl
  have HIN := Lib.hid hin
  have HE := Lib.hid hend
  have HBL := Lib.hid hblk
  have H10 := Lib.hid h10
  have hpf := hp2_t (p := p + 1) h2 h3
  have HA : Hid (∀ j, p + 1 ≤ j → j < p + 1 + 2 → ch t j < 128) := Lib.hid (fun k k1 k2 => by
    have : k = p + 1 ∨ k = p + 2 := by omega
    rcases this with rfl | rfl <;> omega)
  clear h h1 h2 h3 hb h10 hnl hin hend hblk hr1 hx1
  go_enter Tryz.func39, Tryz.ntmps39
  go_wp2_with (first
    | (go_at_call 27; refine (next_r H0.out HR1.out).mono ?_; rintro e w1 ⟨rfl, hL1, hb1⟩; rw [HX1.out] at hL1))
  obtain ⟨src', tv', fv', l1', l2', ln', ls', fr', xs', ys', hx⟩ := hL1
  have HL1 := Lib.hid hx.i
  obtain ⟨_, d2, _, _, _, _, d7, d8, _, d10, _, _, _⟩ := hx.cells
  clear hx d9
  have i1 : (0 : Int) ≤ ((p + 1 : Nat) : Int) := by omega
  have i2 : ((p + 1 : Nat) : Int) ≤ (t.size : Int) := by omega
  go_quiet ((go_at_call 64; exact Calls.quiet_of_same (Tryz.strings_HasPrefix _ _ _)))
  have hBq : Below w1.heap.size w1 (w1.drewN nq) := ⟨rfl, rfl, rfl, Nat.le_refl _, fun _ _ => rfl⟩
  have HLq := Lib.hid (HL1.out.old hBq)
  have hbq := hb1.trans (hBq.mono HL1.out.baseW)
  have e7 : (w1.drewN nq).cell? ⟨b, 7, none⟩ = some (.int .i64 l1') := d7
  have e8 : (w1.drewN nq).cell? ⟨b, 8, none⟩ = some (.int .i64 l2') := d8
  clear hBq d7 d8 d10 d2
  generalize w1.drewN nq = W at *
  have hBl : Below W.heap.size W (W.alloc (.cells #[.int .i64 l1', .int .i64 l2'] 57)) := (Below.refl _ W).alloc (Nat.le_refl _) _
  have hL3 := HLq.out.old hBl
  have hb3 := hbq.trans (hBl.mono HLq.out.baseW)
  have hpk : ∃ r, rv t (p + 3) = r ∧ (r == 45) = false := ⟨_, rfl, by
    have h5 : Bl (ch t (p + 3)) ∨ ch t (p + 3) = 10 := by
      by_cases h6 : p + 3 < a
      · exact .inl (HB.out _ (Nat.le_refl _) h6)
      · right; rw [show p + 3 = a by omega]; exact H10.out
    have : rv t (p + 3) ≠ 45 := fun h7 => by
      have := (rv_eq t (p + 3) 45 (by omega)).1 h7
      unfold Bl at h5; omega
    simpa using this⟩
  obtain ⟨r3, hr3, x45⟩ := hpk
  have HR3 := Lib.hid hr3
  clear hr3
  go_wp2_with (first
    | (go_at_call 65; refine (acceptN_any B b t (p + 1) 2 p n m _ hL3 HA.out (by omega)).mono ?_; rintro e w2 ⟨rfl, hL4, hg4⟩; have hb4 := hb3.grown hg4 hL3.baseW (fun k hk => by cases hk; exact hL3.base))
    | (go_at_call 26; refine (peek_l hL4 HR3.out).mono ?_; rintro e w3 ⟨rfl, hL5, hb5⟩; have hb6 := hb4.trans hb5)
    | (go_at_call 27; refine (next_buf (LB.fresh hL5)).mono ?_; rintro e w4 ⟨rfl, hL7, hb7⟩))
  have hb8 := (hb6.alloc hL5.baseW (.cells #[.slice none 0 0, .int .i64 0, .int .i8 0] 89)).trans hb7
  clear hb7 hb6 hb5 hb4 hg4 hb3 hbq hb1 hL3 hL4 hL5 hBl e7 e8 x45 i1 i2 hl1 hl3
  generalize w3.heap.size = q at *
  go_loopg [4] (a - (p + 3)) (fun k x4 wr => ∃ p' : Nat, x4 = .int .i32 (rv t p') ∧ LB B b t (nx t p') p n m q [] wr ∧ Below B w wr ∧ a - p' ≤ k ∧ p + 3 ≤ p' ∧ p' ≤ a)
  case atStart => exact ⟨p + 1 + 2, rfl, hL7, hb8, by omega, by omega, by omega⟩
  case round =>
    clear hL7 hb8 HLq HL1 HR3 HA hpf
    obtain ⟨p', rfl, hL, hBw, hk, hpp, hpa⟩ := hrel
    by_cases hlt : p' < a
    · as_aux_lemma =>
      have hbl := HB.out p' hpp hlt
      obtain ⟨hr, hx, _⟩ := rv_low t p' (by unfold Bl at hbl; omega)
      rw [hx] at hL
      have HL := Lib.hid hL
      have HBw := Lib.hid hBw
      have HK := Lib.hid hk
      rw [hr]
      clear hL hBw hk hr hx
      rcases hbl with hbl | hbl
      all_goals
        rw [hbl]
        clear hbl
        go_wp2_with (first
          | (go_at_call 27; refine (next_buf HL.out).mono ?_; rintro e w5 ⟨rfl, hL5, hb5⟩))
        have hk' := HK.out
        go_roundg (gk - 1)
        case measure => omega
        case rel => exact ⟨p' + 1, rfl, hL5, HBw.out.trans hb5, by omega, by omega, by omega⟩
    · obtain rfl : a = p' := by omega
      obtain ⟨hr, hx, _⟩ := rv_low t a (by rw [H10.out]; omega)
      rw [H10.out] at hr
      rw [hx] at hL
      rw [hr]
      have HL := Lib.hid hL
      have HBw := Lib.hid hBw
      clear hL hBw hk hr hx hlt hpa
      go_wp2_with (first
          | (go_at_call 26; refine (peek_buf HL.out).mono ?_; rintro e w5 ⟨rfl, hL5, hb5⟩))
      have hb9 := HBw.out.trans hb5
      clear hb5
      go_loopg [4] (q0 - (a + 1)) (fun k x4 wr => ∃ (p' : Nat) (acc : List UInt8), x4 = .int .i32 (rv t p') ∧ LB B b t p' p n m q acc wr ∧ Below B w wr ∧ q0 - p' ≤ k ∧ a + 1 ≤ p' ∧ p' ≤ q0 ∧ acc.length ≤ 4 * (p' - a))
      case atStart => exact ⟨a + 1, [], rfl, hL5, hb9, by omega, by omega, by omega, by simp⟩
      case round =>
        clear hL5 hb9 HL HBw
        obtain ⟨p', acc, rfl, hL, hBw, hk, hpp, hpa, hacc⟩ := hrel
        by_cases hlt : p' < q0
        · as_aux_lemma =>
          have h10' := HNL.out p' (by omega) hlt
          obtain ⟨hr, hx, hps'⟩ := rv_low t p' (by rw [h10']; omega)
          rw [h10'] at hr
          have HL := Lib.hid hL
          have HBw := Lib.hid hBw
          have HK := Lib.hid hk
          have HX := Lib.hid hx
          rw [hr]
          have hacc2 : acc.length ≤ 1000000 := by have := hL.1.bounds; omega
          clear hL hBw hk hr hx h10'
          go_wp2_with (first
            | (go_at_call 27; refine (next_buf HL.out).mono ?_; rintro e w6 ⟨rfl, hL6, hb6⟩; rw [HX.out] at hL6)
            | (go_at_call 51; refine (write_buf hL6 10 (by omega) (by omega) hacc2).mono ?_; rintro e w7 ⟨⟨kk, rfl⟩, hL7, hb7⟩)
            | (go_at_call 26; refine (peek_buf hL7).mono ?_; rintro e w8 ⟨rfl, hL8, hb8⟩))
          have hk' := HK.out
          have hen := enc_len 10
          go_roundg (gk - 1)
          case measure => omega
          case rel => exact ⟨p' + 1, _, rfl, hL8, ((HBw.out.trans hb6).trans hb7).trans hb8, by omega, by omega, by omega, by simp; omega⟩
        · obtain rfl : q0 = p' := by omega
          have hb0 := HIN.out q0 (Nat.le_refl _) (by omega)
          have x10 : (rv t q0 == 10) = false := by
            have : rv t q0 ≠ 10 := fun h => by
              have := (rv_eq t q0 10 (by omega)).1 h
              unfold Bl at hb0; omega
            simpa using this
          generalize rv t q0 = rq at x10 ⊢
          have HL := Lib.hid hL
          have HBw := Lib.hid hBw
          have hpt : q0 + nn ≤ t.size := by
            have h3 := HIN.out (q0 + nn - 1) (by omega) (by omega)
            have := ch_ne (s := t) (i := q0 + nn - 1) (by unfold Bl at h3; omega)
            omega
          have hts := hL.1.bounds.2.2
          clear hL hBw hk hlt hpa hb0
          go_wp2_with fail
          obtain ⟨src, tv, fv, l1, l2, ln, ls, fr2, xs, ys, HX⟩ := HL.out.1
          have hblk := HX.blk
          have i1 : (0 : Int) ≤ (q0 : Int) := by omega
          have i2 : (q0 : Int) ≤ (t.size : Int) := by omega
          clear HX
          refine wp_region_held_tail 20 21 (fun w' => w'.heap[b]? = some (.cells (lexCells t src tv fv p l1 l2 fr2 q0 ln ls) 69 (0, 0))) (by kernel_rfl) (by kernel_rfl) (by intro c a' d' v' w' h'; cases d' <;> exact h') hblk ?_
          simp only [List.take_succ_cons, List.take_zero, List.drop_succ_cons, List.drop_zero]
          iterate 20
            refine wpHeld_cons ?_ (by rfl) (fun w' hSw => ?_) ?_
            rotate_left 1
            · obtain ⟨_, z2, _, _, _, z6, _, _, _, z10, _⟩ := cells_at hSw
              go_simp
              try with_reducible rfl
            simp only [Act.put, List.setIfInBounds_toArray, List.set_cons_zero, List.set_cons_succ]
          refine wpHeld_nil ?_
          refine wpMid_cons (fun K hK => ?_)
          go_simp
          have hbd : Below wr.heap.size wr wr.drew := ⟨rfl, rfl, rfl, Nat.le_refl _, fun _ _ => rfl⟩
          refine (check_any _ _ _ ?_).mono ?_
          · rw [ByteArray.size_extract]; omega
          rintro e w5 ⟨ci, cr, rfl, hc1, hc2, hb5⟩
          obtain rfl : nn = cr := (check_self HIN.out HE.out hc1 hc2).symm
          clear hc1 hc2
          have hb6 := hbd.trans (⟨hb5.os, hb5.tape, hb5.output, hb5.size, hb5.block⟩ : Below wr.heap.size wr.drew w5)
          have hLB5 := HL.out.old hb6
          have hbw5 := HBw.out.trans (hb6.mono HL.out.1.baseW)
          refine hK _ _ (by rw [hb6.block b HL.out.1.lt]; exact hblk) ?_
          clear hK K hblk
          refine wpMid_nil ?_
          go_wp2_with fail
          have hline : Line (ch t) q0 nn q0 j := HBL.out.atLine (by have := HIN.out q0 (Nat.le_refl _) (by omega); unfold Bl at this; omega) (fun _ _ => rfl)
          have HLN := Lib.hid hline
          have H5 := Lib.hid hLB5
          have HB5 := Lib.hid hbw5
          obtain ⟨d2, _, d10⟩ := hLB5.1.cells
          have i3 : (0 : Int) ≤ (nn : Int) := by omega
          have i4 : (q0 : Int) ≤ (q0 : Int) + (nn : Int) := by omega
          have i5 : (q0 : Int) + (nn : Int) ≤ (t.size : Int) := by omega
          have z0 : ((nn : Int) == 0) = false := beq_eq_false_iff_ne.2 (by omega)
          clear hline hLB5 hbw5 hb5 hb6 hbd HL HBw
          go_quiet (fail)
          clear d2 d10
          go_wp2_with fail
          have hBq2 : Below w5.heap.size w5 (w5.drewN nq) := ⟨rfl, rfl, rfl, Nat.le_refl _, fun _ _ => rfl⟩
          have hL6 := H5.out.old hBq2
          have hb6 := HB5.out.trans (hBq2.mono H5.out.1.baseW)
          clear hBq2 HNL HBL
          have z1 : decide ((nn : Int) ≤ 0) = false := by simp; omega
          go_loopg [23] (t.size - q0) (fun k x23 wr => ∃ (p' : Nat) (acc : List UInt8), x23 = .int .i64 nn ∧ LB B b t p' p n m q acc wr ∧ Below B w wr ∧ t.size - p' ≤ k ∧ a + 1 ≤ p' ∧ p' ≤ t.size ∧ Line (ch t) q0 nn p' j ∧ acc.length ≤ 4 * (p' - a))
          case atStart => exact ⟨q0, acc, rfl, hL6, hb6, by omega, by omega, by omega, HLN.out, hacc⟩
          case round =>
            clear hL6 hb6 hacc
            obtain ⟨p1, acc1, rfl, hL, hBw, hk, hp1, hp1', hln, hacc⟩ := hrel
            obtain ⟨hn10, hpre, e, he1, he2, he3, he4⟩ := hln
            have HL := Lib.hid hL
            have HBw := Lib.hid hBw
            have HK := Lib.hid hk
            have HE2 := Lib.hid he2
            have HE3 := Lib.hid he3
            have HE4 := Lib.hid he4
            have HQ : Hid (∀ k, p1 ≤ k → k < p1 + nn → ch t k < 128) := Lib.hid (fun k k1 k2 => by
              have h1 := hpre (k - p1) (by omega)
              have h2 := HIN.out (q0 + (k - p1)) (by omega) (by omega)
              rw [show p1 + (k - p1) = k by omega] at h1
              rw [h1]; unfold Bl at h2; omega)
            have hes : e < t.size := ch_ne (by rw [he3]; decide)
            obtain ⟨G6, hG6⟩ : ∃ G, G = gk := ⟨_, rfl⟩
            have HG6 := Lib.hid hG6
            clear hL hBw hk he2 he3 he4 hpre hn10 hG6
            go_wp2_with (first
              | (go_at_call 65; refine (accept_buf HL.out nn HQ.out (by omega)).mono ?_; rintro e w6 ⟨rfl, hL6, hb6⟩)
              | (go_at_call 27; refine (next_buf hL6).mono ?_; rintro e w7 ⟨rfl, hL7, hb7⟩))
            have hb8 := (HBw.out.trans hb6).trans hb7
            go_loopg [4] (e - (p1 + nn)) (fun k x4 wr => ∃ (p2 : Nat) (acc2 : List UInt8), x4 = .int .i32 (rv t p2) ∧ LB B b t (nx t p2) p n m q acc2 wr ∧ Below B w wr ∧ e - p2 ≤ k ∧ p1 + nn ≤ p2 ∧ p2 ≤ e ∧ acc2.length ≤ 4 * (p2 - a))
            case atStart => exact ⟨p1 + nn, acc1, rfl, hL7, hb8, by omega, by omega, by omega, by omega⟩
            case round =>
              clear hL6 hb6 hL7 hb7 hb8 HL HBw hacc HQ
              obtain ⟨p2, acc2, rfl, hL, hBw, hk, hpp, hpe, hacc⟩ := hrel
              have HL := Lib.hid hL
              have HBw := Lib.hid hBw
              clear hL hBw
              by_cases hlt : p2 < e
              · as_aux_lemma =>
                have HK := Lib.hid hk
                clear hk
                have hne := HE2.out p2 hpp hlt
                have hps' : p2 < t.size := ch_ne hne.2
                have hr := rv_range t p2
                have hr10 : rv t p2 ≠ 10 := fun h => hne.1 ((rv_eq t p2 10 (by omega)).1 h)
                have hr1 : rv t p2 ≠ -1 := by
                  by_cases h128 : ch t p2 < 128
                  · rw [(rv_low t p2 h128).1]; omega
                  · have := (rv_high t p2 hps' (by omega)).1; omega
                have hn1 := nx_lt t p2 hps'
                have hn2 : nx t p2 ≤ e := nx_before hlt (by rw [HE3.out]; omega)
                generalize rv t p2 = r at hr hr10 hr1 ⊢
                have x10 : (r != 10) = true := by simp; exact hr10
                have x1 : (r == -1) = false := by simp; exact hr1
                have hacc2 : acc2.length ≤ 1000000 := by omega
                clear hr10 hr1 hne
                go_wp2_with (first
                  | (go_at_call 51; refine (write_buf HL.out r (by omega) (by omega) hacc2).mono ?_; rintro e w6 ⟨⟨kk, rfl⟩, hL6, hb6⟩)
                  | (go_at_call 27; refine (next_buf hL6).mono ?_; rintro e w7 ⟨rfl, hL7, hb7⟩))
                have hk' := HK.out
                have hen := enc_len r
                go_roundg (gk - 1)
                case measure => omega
                case rel => exact ⟨nx t p2, _, rfl, hL7, (HBw.out.trans hb6).trans hb7, by omega, by omega, by omega, by simp; omega⟩
              · obtain rfl : e = p2 := by omega
                obtain ⟨hr, hx, _⟩ := rv_low t e (by rw [HE3.out]; omega)
                rw [HE3.out] at hr
                rw [hr]
                have hL := HL.out
                rw [hx] at hL
                have HLe := Lib.hid hL
                have hacc2 : acc2.length ≤ 1000000 := by omega
                clear hr hx hL HL hk
                go_wp2_with (first
                  | (go_at_call 51; refine (write_buf HLe.out 10 (by omega) (by omega) hacc2).mono ?_; rintro e w6 ⟨⟨kk, rfl⟩, hL6, hb6⟩)
                  | (go_at_call 26; refine (peek_buf hL6).mono ?_; rintro e w7 ⟨rfl, hL7, hb7⟩))
                have hb8 := (HBw.out.trans hb6).trans hb7
                have hen := enc_len 10
                go_loopg [4] (t.size - (e + 1)) (fun k x4 wr => ∃ (p3 : Nat) (acc3 : List UInt8), x4 = .int .i32 (rv t p3) ∧ LB B b t p3 p n m q acc3 wr ∧ Below B w wr ∧ t.size - p3 ≤ k ∧ e + 1 ≤ p3 ∧ p3 ≤ t.size ∧ Blk (ch t) q0 nn p3 j ∧ acc3.length ≤ 4 * (p3 - a))
                case atStart => exact ⟨e + 1, _, rfl, hL7, hb8, by omega, by omega, by omega, HE4.out, by simp; omega⟩
                case round =>
                  clear hL6 hb6 hL7 hb7 hb8 HLe HBw hacc hacc2 hen
                  obtain ⟨p3, acc3, rfl, hL, hBw, hk, hpp, hpe, hblk3, hacc⟩ := hrel
                  have HL := Lib.hid hL
                  have HBw := Lib.hid hBw
                  have hacc2 : acc3.length ≤ 1000000 := by omega
                  have HB3 := Lib.hid hblk3
                  clear hL hBw hblk3
                  by_cases h10 : ch t p3 = 10
                  · as_aux_lemma =>
                    have HK := Lib.hid hk
                    have hB3 := HB3.out.atNl h10
                    have HB4 := Lib.hid hB3
                    obtain ⟨hr, hx, hps'⟩ := rv_low t p3 (by rw [h10]; omega)
                    rw [h10] at hr
                    rw [hr]
                    have HX := Lib.hid hx
                    clear hk hB3 hr hx h10
                    go_wp2_with (first
                      | (go_at_call 27; refine (next_buf HL.out).mono ?_; rintro e w6 ⟨rfl, hL6, hb6⟩; rw [HX.out] at hL6)
                      | (go_at_call 51; refine (write_buf hL6 10 (by omega) (by omega) hacc2).mono ?_; rintro e w7 ⟨⟨kk, rfl⟩, hL7, hb7⟩)
                      | (go_at_call 26; refine (peek_buf hL7).mono ?_; rintro e w8 ⟨rfl, hL8, hb8⟩))
                    have hk' := HK.out
                    have hen := enc_len 10
                    go_roundg (gk - 1)
                    case measure => omega
                    case rel => exact ⟨p3 + 1, _, rfl, hL8, ((HBw.out.trans hb6).trans hb7).trans hb8, by omega, by omega, by omega, HB4.out, by simp; omega⟩
                  · have x10 : (rv t p3 == 10) = false := by
                      have : rv t p3 ≠ 10 := fun h => h10 ((rv_eq t p3 10 (by omega)).1 h)
                      simpa using this
                    generalize rv t p3 = rq3 at x10 ⊢
                    have HN10 := Lib.hid h10
                    clear h10 hk
                    go_wp2_with fail
                    obtain ⟨src, tv, fv, l1, l2, ln, ls, fr2, xs, ys, HX⟩ := HL.out.1
                    have hblk := HX.blk
                    have k1 : (0 : Int) ≤ (p3 : Int) := by omega
                    have k2 : (p3 : Int) ≤ (t.size : Int) := by omega
                    clear HX
                    refine wp_region_held_tail 11 12 (fun w' => w'.heap[b]? = some (.cells (lexCells t src tv fv p l1 l2 fr2 p3 ln ls) 69 (0, 0))) (by kernel_rfl) (by kernel_rfl) (by intro c a' d' v' w' h'; cases d' <;> exact h') hblk ?_
                    simp only [List.take_succ_cons, List.take_zero, List.drop_succ_cons, List.drop_zero]
                    iterate 11
                      refine wpHeld_cons ?_ (by rfl) (fun w' hSw => ?_) ?_
                      rotate_left 1
                      · obtain ⟨_, z2, _, _, _, z6, _, _, _, z10, _⟩ := cells_at hSw
                        go_simp
                        try with_reducible rfl
                      simp only [Act.put, List.setIfInBounds_toArray, List.set_cons_zero, List.set_cons_succ]
                    refine wpHeld_nil ?_
                    refine wpMid_cons (fun K hK => ?_)
                    go_simp
                    have hbd : Below wr.heap.size wr wr.drew := ⟨rfl, rfl, rfl, Nat.le_refl _, fun _ _ => rfl⟩
                    refine (check_any _ _ _ ?_).mono ?_
                    · rw [ByteArray.size_extract]; omega
                    rintro e5 w5 ⟨ci, cr, rfl, hc1, hc2, hb5⟩
                    obtain ⟨hcr1, hcr2⟩ := check_ind hpt HIN.out hc1 hc2
                    clear hc1 hc2
                    have hb6 := hbd.trans (⟨hb5.os, hb5.tape, hb5.output, hb5.size, hb5.block⟩ : Below wr.heap.size wr.drew w5)
                    have hLB5 := HL.out.old hb6
                    have hbw5 := HBw.out.trans (hb6.mono HL.out.1.baseW)
                    refine hK _ _ (by rw [hb6.block b HL.out.1.lt]; exact hblk) ?_
                    clear hK K hblk hb5 hb6 hbd HBw HL
                    refine wpMid_nil ?_
                    have H5 := Lib.hid hLB5
                    have HB5 := Lib.hid hbw5
                    clear hLB5 hbw5
                    by_cases hpre : Pre (ch t) q0 nn p3
                    · as_aux_lemma =>
                      obtain rfl : nn = cr := (hcr1 hpre).symm
                      have HLN := Lib.hid (HB3.out.atLine HN10.out hpre)
                      clear hcr1 hcr2 hpre
                      go_wp2_with fail
                      have hk' := HK.out
                      have hg' := HG6.out
                      go_roundg (G6 - 1)
                      case measure => omega
                      case rel => exact ⟨p3, acc3, rfl, H5.out, HB5.out, by omega, by omega, by omega, HLN.out, hacc⟩
                    · obtain rfl : 0 = cr := (hcr2 hpre).symm
                      obtain ⟨e2, rfl, hf1, hf2, hf3, hf4, hf5⟩ := HB3.out.atFin HN10.out hpre
                      have HF2 := Lib.hid hf2
                      have HF3 : Hid (ch t e2 = 124 ∧ ch t (e2 + 1) = 124 ∧ ch t (e2 + 2) = 124) := Lib.hid ⟨hf3, hf4, hf5⟩
                      have he2s : e2 + 2 < t.size := ch_ne (by rw [hf5]; decide)
                      clear hcr1 hcr2 hpre hf2 hf3 hf4 hf5 HB3 HK
                      go_wp2_with (first
                        | (go_at_call 26; refine (peek_buf H5.out).mono ?_; rintro e w7 ⟨rfl, hL7, hb7⟩))
                      have hb8 := HB5.out.trans hb7
                      go_loopg [4, 25] (e2 - p3) (fun k x4 x25 wr => ∃ (p4 : Nat) (ti : ByteArray), x4 = .int .i32 (rv t p4) ∧ x25 = .string ti ∧ ti.size ≤ p4 ∧ LB B b t p4 p n m q acc3 wr ∧ Below B w wr ∧ e2 - p4 ≤ k ∧ p3 ≤ p4 ∧ p4 ≤ e2)
                      case atStart => exact ⟨p3, ⟨#[]⟩, rfl, rfl, Nat.zero_le _, hL7, hb8, by omega, by omega, by omega⟩
                      case round =>
                        clear hL7 hb7 hb8 H5 HB5
                        obtain ⟨p4, ti, rfl, rfl, hti, hL, hBw, hk, hpp4, hpe4⟩ := hrel
                        have HL := Lib.hid hL
                        have HBw := Lib.hid hBw
                        clear hL hBw
                        by_cases hlt : p4 < e2
                        · as_aux_lemma =>
                          have HK := Lib.hid hk
                          have hbl := HF2.out p4 hpp4 hlt
                          obtain ⟨hr, hx, _⟩ := rv_low t p4 (by unfold Bl at hbl; omega)
                          have HX := Lib.hid hx
                          rw [hr]
                          clear hk hr hx
                          have HZ : Hid ((Utf8.encode 32).size = 1 ∧ (Utf8.encode 9).size = 1) := Lib.hid ⟨by decide, by decide⟩
                          have hcat1 : ti.size + (Utf8.encode 32).size ≤ 9223372036854775807 := by have := HZ.out.1; omega
                          have hcat2 : ti.size + (Utf8.encode 9).size ≤ 9223372036854775807 := by have := HZ.out.2; omega
                          rcases hbl with hbl | hbl
                          all_goals
                            rw [hbl]
                            clear hbl
                            go_wp2_with (first
                              | (go_at_call 27; refine (next_buf HL.out).mono ?_; rintro e w9 ⟨rfl, hL9, hb9⟩; rw [HX.out] at hL9)
                              | (go_at_call 26; refine (peek_buf hL9).mono ?_; rintro e w10 ⟨rfl, hL10, hb10⟩))
                            have hk' := HK.out
                            have hz' := HZ.out
                            go_roundg (gk - 1)
                            case measure => omega
                            case rel => exact ⟨p4 + 1, _, rfl, rfl, by rw [ByteArray.size_append]; omega, hL10, (HBw.out.trans hb9).trans hb10, by omega, by omega, by omega⟩
                        · obtain rfl : e2 = p4 := by omega
                          have hr : rv t e2 = 124 := (rv_eq t e2 124 (by omega)).2 HF3.out.1
                          rw [hr]
                          have hpf3 := hp3_t HF3.out.1 HF3.out.2.1 HF3.out.2.2
                          have HA3 : Hid (∀ j, e2 ≤ j → j < e2 + 3 → ch t j < 128) := Lib.hid (fun k k1 k2 => by
                            have := HF3.out
                            have : k = e2 ∨ k = e2 + 1 ∨ k = e2 + 2 := by omega
                            rcases this with rfl | rfl | rfl <;> omega)
                          obtain ⟨d2, _, d10⟩ := HL.out.1.cells
                          have g1 : (0 : Int) ≤ (e2 : Int) := by omega
                          have g2 : (e2 : Int) ≤ (t.size : Int) := by omega
                          clear hr hk
                          go_wp2_with fail
                          go_quiet ((go_at_call 64; exact Calls.quiet_of_same (Tryz.strings_HasPrefix _ _ _)))
                          have hBq3 : Below wr.heap.size wr (wr.drewN nq) := ⟨rfl, rfl, rfl, Nat.le_refl _, fun _ _ => rfl⟩
                          have HL6 := Lib.hid (HL.out.old hBq3)
                          have hb6 := HBw.out.trans (hBq3.mono HL.out.1.baseW)
                          clear hBq3 d2 d10
                          go_wp2_with (first
                            | (go_at_call 65; refine (accept_buf HL6.out 3 HA3.out (by omega)).mono ?_; rintro e w9 ⟨rfl, hL9, hb9⟩)
                            | (go_at_call 52; refine (string_buf hL9).mono ?_; rintro e w10 ⟨rfl, hL10, hb10⟩)
                            | (go_at_call 34; refine (emitFull_any B b t (e2 + 3) p n m _ hL10.1 hn 13 _ _ _).mono ?_; rintro e w11 ⟨rfl, hL11, hb11⟩)
                            | (go_at_call 28; refine (reset_any B b t (e2 + 3) p (n + 1) 0 _ hL11).mono ?_; rintro e w12 ⟨rfl, hL12, hg12⟩))
                          have hb12 := (((hb6.trans hb9).trans hb10).trans hb11).grown hg12 hL11.baseW (fun k hk => by cases hk; exact hL11.base)
                          go_ret
                          exact ⟨rfl, hL12, hb12⟩
end Go.Proofs.YtjjmgnllhihoeaaGreatFmt
