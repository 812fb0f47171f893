/- A line without its white space. -/
import Derived.Test.YtjjmgnllhihoeaaGreatFmtBuf
import Derived.Test.YtjjmgnllhihoeaaGreatFmtRns
import Derived.Laws.IdiomStrings
import Derived.Laws.Cover4
set_option linter.unusedSimpArgs false
set_option linter.unusedVariables false
namespace Go.Proofs.YtjjmgnllhihoeaaGreatFmt
open Go.RowKit
attribute [local go_sem ↓] Go.wp_at_zero Go.wp_at_succ

theorem foldl_head (ns : List Int) : ∀ s : ByteArray, 0 < s.size → ch (ns.foldl (fun r n => r ++ Utf8.encode n) s) 0 = ch s 0 := by
  induction ns with
  | nil => intro s _; rfl
  | cons n ns ih =>
    intro s h
    have h2 : (s ++ Utf8.encode n).size = s.size + (Utf8.encode n).size := ByteArray.size_append
    rw [List.foldl_cons, ih _ (by omega), ch_in s 0 h, ch_in _ 0 (by omega)]
    congr 1
    exact ByteArray.getElem_append_left h

theorem runesBytes_47 (zs : List Int) (h : zs.getD 0 0 = 47) : ch (runesBytes zs) 0 = 47 := by
  cases zs with
  | nil => simp at h
  | cons z zs =>
    have hz : z = 47 := by simpa using h
    subst hz
    unfold runesBytes
    rw [List.foldl_cons, foldl_head]
    · decide
    · decide

/-- A text whose first byte is a slash keeps it. -/
def StripP (s : ByteArray) (w : World) (e : Ending) (w' : World) : Prop := ∃ s' : ByteArray, e = .returned (.string s') ∧ (ch s 0 = 47 → ch s' 0 = 47) ∧ Below w.heap.size w w'

set_option maxRecDepth 100000 in
set_option maxHeartbeats 6400000 in
theorem strip_any (s : ByteArray) (mg : Int) (w : World) (hs : s.size ≤ 1000000) : Calls Tryz.prog 80 #[.string s, .int .i64 mg] w (StripP s w) := by
  obtain ⟨zs, hz1, hz2, hz3⟩ := runesFrom_ints s s.size 0 #[]
  have hR : Conv.runesFrom s s.size 0 #[] = (zs.map (Value.int .i32)).toArray := by rw [hz1]; apply Array.ext'; simp
  have hsz : (Conv.runesFrom s s.size 0 #[]).size = zs.length := by rw [hR]; simp
  have hcv := run_runes_of_string (P := Tryz.prog) w 9 39 21 s Tryz.underlying9 Tryz.underlying39 Tryz.underlying21 (by rw [hsz]; omega)
  rw [hsz, hR] at hcv
  have hcg := grownCap_ge w zs.length 0 21
  generalize grownCap w zs.length 0 21 = cap at hcv hcg
  have hB0 : Below w.heap.size w (w.drew.alloc (.cells ((zs.map (Value.int .i32)).toArray ++ Array.replicate (cap - zs.length) (.int .i32 0)) 21)) := (Below.refl _ w).drew.alloc (Nat.le_refl _) _
  have hcell : ∀ j, j < zs.length → (w.drew.alloc (.cells ((zs.map (Value.int .i32)).toArray ++ Array.replicate (cap - zs.length) (.int .i32 0)) 21)).cell? ⟨w.heap.size, j, none⟩ = some (.int .i32 (zs.getD j 0)) := by
    intro j hj
    have := heap_alloc_new w.drew (.cells ((zs.map (Value.int .i32)).toArray ++ Array.replicate (cap - zs.length) (.int .i32 0)) 21)
    have e : w.drew.heap.size = w.heap.size := rfl
    rw [e] at this
    simp only [World.cell?, this]
    simp [Array.getElem?_append, hj]
  generalize w.drew.alloc (.cells ((zs.map (Value.int .i32)).toArray ++ Array.replicate (cap - zs.length) (.int .i32 0)) 21) = W at hcv hB0 hcell
  have h0 : ch s 0 = 47 → 0 < zs.length ∧ zs.getD 0 0 = 47 := by
    intro h
    have hlt : 0 < s.size := by
      rcases Nat.eq_zero_or_pos s.size with h1 | h1
      · rw [ch_out s 0 (by omega)] at h; omega
      · exact h1
    have h1 := hz2 hlt hlt
    refine ⟨h1.1, ?_⟩
    rw [h1.2, ← (decode_low s 0 hlt).1, (rv_low s 0 (by omega)).1, h]
    rfl
  have hpos : 0 < s.size → 0 < zs.length := fun h => (hz2 h h).1
  have HC := Lib.hid hcell
  have H0 := Lib.hid h0
  have HB := Lib.hid hB0
  generalize w.heap.size = q at hcv HC
  clear hz1 hz2 hR hsz hcell h0 hB0
  by_cases hs0 : s.size = 0
  · have e0 : ((s.size : Int) == 0) = true := by rw [hs0]; rfl
    clear hpos hs0
    go_enter Tryz.func80, Tryz.ntmps80
    go_wp2_with fail
    go_ret
    exact ⟨s, rfl, fun h => h, HB.out⟩
  · have e0 : ((s.size : Int) == 0) = false := beq_eq_false_iff_ne.2 (by omega)
    have hl0 := hpos (by omega)
    clear hpos hs0
    go_enter Tryz.func80, Tryz.ntmps80
    go_wp2_with fail
    clear hcv e0
    go_loopg [6] zs.length (fun k x6 wr => ∃ i : Nat, x6 = .int .i64 i ∧ wr = W ∧ i ≤ zs.length ∧ zs.length - i ≤ k ∧ (ch s 0 = 47 → i = 0))
    case atStart => exact ⟨0, rfl, rfl, Nat.zero_le _, by omega, fun _ => rfl⟩
    case round =>
      obtain ⟨i, rfl, rfl, hi, hk, hi0⟩ := hrel
      have HI := Lib.hid hi0
      have HK := Lib.hid hk
      clear hi0 hk
      by_cases hil : i < zs.length
      · have c1 := HC.out i hil
        have hr : ∃ r, zs.getD i 0 = r := ⟨_, rfl⟩
        obtain ⟨r, hr⟩ := hr
        rw [hr] at c1
        have HR := Lib.hid hr
        clear hr
        cases hw : hwB r
        · as_aux_lemma =>
          go_wp2_with (go_at_call 70; refine (isHW_any _ _).mono ?_; rintro e w2 ⟨rfl, rfl⟩)
          go_loopg [7] zs.length (fun k x7 wr2 => ∃ j : Nat, x7 = .int .i64 j ∧ wr2 = wr ∧ i ≤ j ∧ j ≤ zs.length ∧ j ≤ k ∧ (ch s 0 = 47 → 1 ≤ j))
          case atStart => exact ⟨zs.length, rfl, rfl, hi, Nat.le_refl _, Nat.le_refl _, fun h => (H0.out h).1⟩
          case round =>
            obtain ⟨j, rfl, rfl, hij, hj, hjk, hj1⟩ := hrel
            have HJ := Lib.hid hj1
            have HK2 := Lib.hid hjk
            clear hj1 hjk
            by_cases hji : i < j
            · have c2 := HC.out (j - 1) (by omega)
              have hwj : IntKind.i64.wrap ((j : Int) - 1) = ((j - 1 : Nat) : Int) := by rw [IntKind.wrap_i64]; omega
              have hb1 : (0 : Int) ≤ ((j - 1 : Nat) : Int) := by omega
              have hb2 : ((j - 1 : Nat) : Int) < (zs.length : Int) := by omega
              have hr2 : ∃ r2, zs.getD (j - 1) 0 = r2 := ⟨_, rfl⟩
              obtain ⟨r2, hr2⟩ := hr2
              rw [hr2] at c2
              have HR2 := Lib.hid hr2
              clear hr2
              cases hw2 : hwB r2
              · go_wp2_with (go_at_call 70; refine (isHW_any _ _).mono ?_; rintro e w2 ⟨rfl, rfl⟩)
                clear c2 hwj hw2
                have hle2 : (i : Int) ≤ ((j : Nat) : Int) := by omega
                have hle3 : ((j : Nat) : Int) ≤ (cap : Int) := by omega
                have hle4 : (0 : Int) ≤ (i : Int) := by omega
                by_cases hci : cap = i
                · omega
                · have hcv2 := run_convert_runes (P := Tryz.prog) wr 39 9 21 ⟨q, i, none⟩ (j - i) (cap - i) (zs.drop i) (by simp; omega) Tryz.underlying39 Tryz.underlying21 Tryz.underlying9 (fun j2 hj => by
                    have hj' : i + j2 < zs.length := by simp at hj; omega
                    have e : (⟨q, i, none⟩ : Addr).add j2 = ⟨q, i + j2, none⟩ := by unfold Addr.add; split <;> simp_all
                    rw [e, HC.out (i + j2) hj']
                    simp [List.getD])
                  go_wp2_with fail
                  rw [hcv2]
                  go_simp
                  go_wp2_with fail
                  go_ret
                  refine ⟨_, rfl, fun h => ?_, HB.out⟩
                  have h2 := HJ.out h
                  have h3 := HI.out h
                  subst h3
                  refine runesBytes_47 _ ?_
                  obtain ⟨h4, h5⟩ := H0.out h
                  cases zs with
                  | nil => simp at h4
                  | cons z zs =>
                    obtain ⟨k, hk⟩ : ∃ k, j = k + 1 := ⟨j - 1, by omega⟩
                    rw [hk]
                    simpa using h5
              · go_wp2_with (go_at_call 70; refine (isHW_any _ _).mono ?_; rintro e w2 ⟨rfl, rfl⟩)
                have hk2 := HK2.out
                go_roundg (gk - 1)
                case measure => omega
                case rel =>
                  refine ⟨j - 1, rfl, rfl, by omega, by omega, by omega, fun h => ?_⟩
                  have h2 := HI.out h
                  have h3 := HR2.out
                  by_cases hj1 : j = 1
                  · subst hj1
                    rw [show (1 - 1 : Nat) = 0 from rfl, (H0.out h).2] at h3
                    rw [← h3] at hw2
                    exact absurd hw2 (by decide)
                  · omega
            · obtain rfl : i = j := by omega
              have hle2 : (i : Int) ≤ ((i : Nat) : Int) := by omega
              have hle3 : ((i : Nat) : Int) ≤ (cap : Int) := by omega
              have hle4 : (0 : Int) ≤ (i : Int) := by omega
              by_cases hci : cap = i
              · have hcv2 := run_convert_runes (P := Tryz.prog) wr 39 9 21 ⟨q, 0, none⟩ 0 0 [] (Nat.le_refl _) Tryz.underlying39 Tryz.underlying21 Tryz.underlying9 (fun j hj => absurd hj (Nat.not_lt_zero j))
                subst hci
                go_wp2_with fail
                go_ret
                refine ⟨_, rfl, fun h => ?_, HB.out⟩
                have h2 := HJ.out h
                have h3 := HI.out h
                omega
              · have hcv2 := run_convert_runes (P := Tryz.prog) wr 39 9 21 ⟨q, i, none⟩ 0 (cap - i) [] (Nat.le_refl _) Tryz.underlying39 Tryz.underlying21 Tryz.underlying9 (fun j hj => absurd hj (Nat.not_lt_zero j))
                go_wp2_with fail
                go_ret
                refine ⟨_, rfl, fun h => ?_, HB.out⟩
                have h2 := HJ.out h
                have h3 := HI.out h
                omega
        · by_cases hm : (i : Int) < mg
          · go_wp2_with (go_at_call 70; refine (isHW_any _ _).mono ?_; rintro e w2 ⟨rfl, rfl⟩)
            have hk' := HK.out
            go_roundg (gk - 1)
            case measure => omega
            case rel =>
              refine ⟨i + 1, by go_num, rfl, by omega, by omega, fun h => ?_⟩
              have h2 := HI.out h
              have h3 := HR.out
              rw [h2, (H0.out h).2] at h3
              rw [← h3] at hw
              exact absurd hw (by decide)
          · as_aux_lemma =>
            go_wp2_with (go_at_call 70; refine (isHW_any _ _).mono ?_; rintro e w2 ⟨rfl, rfl⟩)
            go_loopg [7] zs.length (fun k x7 wr2 => ∃ j : Nat, x7 = .int .i64 j ∧ wr2 = wr ∧ i ≤ j ∧ j ≤ zs.length ∧ j ≤ k ∧ (ch s 0 = 47 → 1 ≤ j))
            case atStart => exact ⟨zs.length, rfl, rfl, hi, Nat.le_refl _, Nat.le_refl _, fun h => (H0.out h).1⟩
            case round =>
              obtain ⟨j, rfl, rfl, hij, hj, hjk, hj1⟩ := hrel
              have HJ := Lib.hid hj1
              have HK2 := Lib.hid hjk
              clear hj1 hjk
              by_cases hji : i < j
              · have c2 := HC.out (j - 1) (by omega)
                have hwj : IntKind.i64.wrap ((j : Int) - 1) = ((j - 1 : Nat) : Int) := by rw [IntKind.wrap_i64]; omega
                have hb1 : (0 : Int) ≤ ((j - 1 : Nat) : Int) := by omega
                have hb2 : ((j - 1 : Nat) : Int) < (zs.length : Int) := by omega
                have hr2 : ∃ r2, zs.getD (j - 1) 0 = r2 := ⟨_, rfl⟩
                obtain ⟨r2, hr2⟩ := hr2
                rw [hr2] at c2
                have HR2 := Lib.hid hr2
                clear hr2
                cases hw2 : hwB r2
                · go_wp2_with (go_at_call 70; refine (isHW_any _ _).mono ?_; rintro e w2 ⟨rfl, rfl⟩)
                  clear c2 hwj hw2
                  have hle2 : (i : Int) ≤ ((j : Nat) : Int) := by omega
                  have hle3 : ((j : Nat) : Int) ≤ (cap : Int) := by omega
                  have hle4 : (0 : Int) ≤ (i : Int) := by omega
                  by_cases hci : cap = i
                  · omega
                  · have hcv2 := run_convert_runes (P := Tryz.prog) wr 39 9 21 ⟨q, i, none⟩ (j - i) (cap - i) (zs.drop i) (by simp; omega) Tryz.underlying39 Tryz.underlying21 Tryz.underlying9 (fun j2 hj => by
                      have hj' : i + j2 < zs.length := by simp at hj; omega
                      have e : (⟨q, i, none⟩ : Addr).add j2 = ⟨q, i + j2, none⟩ := by unfold Addr.add; split <;> simp_all
                      rw [e, HC.out (i + j2) hj']
                      simp [List.getD])
                    go_wp2_with fail
                    rw [hcv2]
                    go_simp
                    go_wp2_with fail
                    go_ret
                    refine ⟨_, rfl, fun h => ?_, HB.out⟩
                    have h2 := HJ.out h
                    have h3 := HI.out h
                    subst h3
                    refine runesBytes_47 _ ?_
                    obtain ⟨h4, h5⟩ := H0.out h
                    cases zs with
                    | nil => simp at h4
                    | cons z zs =>
                      obtain ⟨k, hk⟩ : ∃ k, j = k + 1 := ⟨j - 1, by omega⟩
                      rw [hk]
                      simpa using h5
                · go_wp2_with (go_at_call 70; refine (isHW_any _ _).mono ?_; rintro e w2 ⟨rfl, rfl⟩)
                  have hk2 := HK2.out
                  go_roundg (gk - 1)
                  case measure => omega
                  case rel =>
                    refine ⟨j - 1, rfl, rfl, by omega, by omega, by omega, fun h => ?_⟩
                    have h2 := HI.out h
                    have h3 := HR2.out
                    by_cases hj1 : j = 1
                    · subst hj1
                      rw [show (1 - 1 : Nat) = 0 from rfl, (H0.out h).2] at h3
                      rw [← h3] at hw2
                      exact absurd hw2 (by decide)
                    · omega
              · obtain rfl : i = j := by omega
                have hle2 : (i : Int) ≤ ((i : Nat) : Int) := by omega
                have hle3 : ((i : Nat) : Int) ≤ (cap : Int) := by omega
                have hle4 : (0 : Int) ≤ (i : Int) := by omega
                by_cases hci : cap = i
                · have hcv2 := run_convert_runes (P := Tryz.prog) wr 39 9 21 ⟨q, 0, none⟩ 0 0 [] (Nat.le_refl _) Tryz.underlying39 Tryz.underlying21 Tryz.underlying9 (fun j hj => absurd hj (Nat.not_lt_zero j))
                  subst hci
                  go_wp2_with fail
                  go_ret
                  refine ⟨_, rfl, fun h => ?_, HB.out⟩
                  have h2 := HJ.out h
                  have h3 := HI.out h
                  omega
                · have hcv2 := run_convert_runes (P := Tryz.prog) wr 39 9 21 ⟨q, i, none⟩ 0 (cap - i) [] (Nat.le_refl _) Tryz.underlying39 Tryz.underlying21 Tryz.underlying9 (fun j hj => absurd hj (Nat.not_lt_zero j))
                  go_wp2_with fail
                  go_ret
                  refine ⟨_, rfl, fun h => ?_, HB.out⟩
                  have h2 := HJ.out h
                  have h3 := HI.out h
                  omega
      · as_aux_lemma =>
        go_wp2_with (go_at_call 70; refine (isHW_any _ _).mono ?_; rintro e w2 ⟨rfl, rfl⟩)
        go_loopg [7] zs.length (fun k x7 wr2 => ∃ j : Nat, x7 = .int .i64 j ∧ wr2 = wr ∧ i ≤ j ∧ j ≤ zs.length ∧ j ≤ k ∧ (ch s 0 = 47 → 1 ≤ j))
        case atStart => exact ⟨zs.length, rfl, rfl, hi, Nat.le_refl _, Nat.le_refl _, fun h => (H0.out h).1⟩
        case round =>
          obtain ⟨j, rfl, rfl, hij, hj, hjk, hj1⟩ := hrel
          have HJ := Lib.hid hj1
          have HK2 := Lib.hid hjk
          clear hj1 hjk
          by_cases hji : i < j
          · omega
          · obtain rfl : i = j := by omega
            have hle2 : (i : Int) ≤ ((i : Nat) : Int) := by omega
            have hle3 : ((i : Nat) : Int) ≤ (cap : Int) := by omega
            have hle4 : (0 : Int) ≤ (i : Int) := by omega
            by_cases hci : cap = i
            · have hcv2 := run_convert_runes (P := Tryz.prog) wr 39 9 21 ⟨q, 0, none⟩ 0 0 [] (Nat.le_refl _) Tryz.underlying39 Tryz.underlying21 Tryz.underlying9 (fun j hj => absurd hj (Nat.not_lt_zero j))
              subst hci
              go_wp2_with fail
              go_ret
              refine ⟨_, rfl, fun h => ?_, HB.out⟩
              have h2 := HJ.out h
              have h3 := HI.out h
              omega
            · have hcv2 := run_convert_runes (P := Tryz.prog) wr 39 9 21 ⟨q, i, none⟩ 0 (cap - i) [] (Nat.le_refl _) Tryz.underlying39 Tryz.underlying21 Tryz.underlying9 (fun j hj => absurd hj (Nat.not_lt_zero j))
              go_wp2_with fail
              go_ret
              refine ⟨_, rfl, fun h => ?_, HB.out⟩
              have h2 := HJ.out h
              have h3 := HI.out h
              omega

end Go.Proofs.YtjjmgnllhihoeaaGreatFmt
