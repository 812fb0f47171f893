/- The reference's lexer: is a byte one of which operators are made; is a text in a list. -/
import Derived.Test.YtjjmgnllhihoeaaGreatFmtSpF
import Derived.Lib.SlBytesConst
set_option linter.unusedSimpArgs false
set_option linter.unusedVariables false
namespace Go.Proofs.YtjjmgnllhihoeaaGreatFmt
open Go.RowKit
attribute [local go_sem ↓] Go.wp_at_zero Go.wp_at_succ

def opL : List Int := [33, 36, 58, 126, 43, 45, 38, 124, 94, 61, 60, 62, 42, 47, 37]
def opB (r : Int) : Bool := opL.contains r

theorem opB_iff (c : Nat) : opB (c : Int) = true ↔ Op c := by
  unfold opB opL Op
  simp
  omega

theorem contains_none {l : List Int} {r : Int} {i : Nat} (h : ∀ k, k < i → l[k]? ≠ some r) (hi : l.length ≤ i) : l.contains r = false := by
  cases hc : l.contains r with
  | false => rfl
  | true =>
    have hm : r ∈ l := by simpa using hc
    obtain ⟨k, hk, he⟩ := List.getElem_of_mem hm
    exact absurd (by rw [List.getElem?_eq_getElem hk, he]) (h k (by omega))

abbrev opCells : Array Value := #[.int .u8 33, .int .u8 36, .int .u8 58, .int .u8 126, .int .u8 43, .int .u8 45, .int .u8 38, .int .u8 124, .int .u8 94, .int .u8 61, .int .u8 60, .int .u8 62, .int .u8 42, .int .u8 47, .int .u8 37]

/-- A Bool; new blocks alone. -/
def IsP (x : Bool) (w : World) (e : Ending) (w' : World) : Prop := e = .returned (.bool x) ∧ Below w.heap.size w w'

set_option maxRecDepth 100000 in
set_option maxHeartbeats 3200000 in
theorem opByte_any (r : Int) (w : World) : Calls Tryz.prog 21 #[.int .u8 r] w (IsP (opB r) w) := by
  have hbk := heap_alloc_new w (.cells opCells 5 (15, 16))
  have hcell : ∀ i, i < 15 → (w.alloc (.cells opCells 5 (15, 16))).cell? ⟨w.heap.size, i, none⟩ = some (.int .u8 (opL.getD i 0)) := by
    intro i hi
    simp only [World.cell?, hbk]
    have : i = 0 ∨ i = 1 ∨ i = 2 ∨ i = 3 ∨ i = 4 ∨ i = 5 ∨ i = 6 ∨ i = 7 ∨ i = 8 ∨ i = 9 ∨ i = 10 ∨ i = 11 ∨ i = 12 ∨ i = 13 ∨ i = 14 := by omega
    rcases this with rfl | rfl | rfl | rfl | rfl | rfl | rfl | rfl | rfl | rfl | rfl | rfl | rfl | rfl | rfl <;> rfl
  have HC := Lib.hid hcell
  have hb : Below w.heap.size w (w.alloc (.cells opCells 5 (15, 16))) := (Below.refl _ w).alloc (Nat.le_refl _) _
  have HB := Lib.hid hb
  clear hcell hbk hb
  have hcv : (convert 79 79 (.slice (some ⟨w.heap.size, 0, none⟩) 15 15)).run Tryz.prog (w.alloc (.cells opCells 5)) = .ok (.slice (some ⟨w.heap.size, 0, none⟩) 15 15) (w.alloc (.cells opCells 5 (15, 16))) := Lib.run_convert_bytes_const w 79 5 opCells 15 15 Tryz.underlying79 Tryz.underlying5
  go_enter Tryz.func21, Tryz.ntmps21
  go_wp2_with fail
  clear hcv
  go_loopg [8] 15 (fun k x8 wr => ∃ i : Nat, x8 = .int .i64 i ∧ i ≤ 15 ∧ 15 - i ≤ k ∧ (∀ k, k < i → opL[k]? ≠ some r) ∧ wr = w.alloc (.cells opCells 5 (15, 16)))
  case atStart => exact ⟨0, rfl, Nat.zero_le _, Nat.le_refl _, fun k hk => absurd hk (Nat.not_lt_zero k), rfl⟩
  case round =>
    obtain ⟨i, rfl, hi, hk, hD, rfl⟩ := hrel
    have HD := Lib.hid hD
    have HK := Lib.hid hk
    clear hD hk
    by_cases hlt : i < 15
    · have hd : decide ((i : Int) < 15) = true := by simp; omega
      have i0 : (0 : Int) ≤ (i : Int) := by omega
      have ci := HC.out i hlt
      have hget : opL[i]? = some (opL.getD i 0) := by
        have hl : i < opL.length := hlt
        rw [List.getD, List.getElem?_eq_getElem hl]; rfl
      have HG := Lib.hid hget
      clear hget
      generalize opL.getD i 0 = v at *
      by_cases hv : v = r
      · as_aux_lemma =>
        have x1 : (v == r) = true := by simpa using hv
        have HT : Hid (opB r = true) := Lib.hid (by
          unfold opB
          have := List.mem_of_getElem? HG.out
          rw [hv] at this
          simpa using this)
        clear hv
        go_wp2_with fail
        go_ret
        exact ⟨by rw [HT.out]; rfl, HB.out⟩
      · as_aux_lemma =>
        have x1 : (v == r) = false := by simpa using hv
        have HV := Lib.hid hv
        clear hv
        go_wp2_with fail
        have hk' := HK.out
        go_roundg (gk - 1)
        case measure => omega
        case rel => exact ⟨i + 1, by go_num, by omega, by omega, fun k hk => by
          by_cases hki : k < i
          · exact HD.out k hki
          · rw [show k = i by omega, HG.out]; exact fun h => HV.out (Option.some.inj h), rfl⟩
    · have hd : decide ((i : Int) < 15) = false := by simp; omega
      have HF : Hid (opB r = false) := Lib.hid (contains_none HD.out (by show 15 ≤ i; omega))
      go_wp2_with fail
      go_ret
      exact ⟨by rw [HF.out]; rfl, HB.out⟩

/-- Is the text x among the texts of a list that lies in block g? -/
def hasB (l : List ByteArray) (x : ByteArray) : Bool := l.any fun y => y.toList == x.toList

set_option maxRecDepth 100000 in
set_option maxHeartbeats 3200000 in
theorem has_any (l : List ByteArray) (g cap : Nat) (x : ByteArray) (w : World) (hl : l.length ≤ 1000) (hc : ∀ i, i < l.length → w.cell? ⟨g, i, none⟩ = some (.string (l.getD i ByteArray.empty))) :
    Calls Tryz.prog 18 #[.slice (some ⟨g, 0, none⟩) l.length cap, .string x] w fun e w' => e = .returned (.bool (hasB l x)) ∧ w' = w := by
  have HC := Lib.hid hc
  clear hc
  go_enter Tryz.func18, Tryz.ntmps18
  go_wp2_with fail
  go_loopg [9] l.length (fun k x9 wr => ∃ i : Nat, x9 = .int .i64 i ∧ i ≤ l.length ∧ l.length - i ≤ k ∧ (∀ k, k < i → ((l.getD k ByteArray.empty).toList == x.toList) = false) ∧ wr = w)
  case atStart => exact ⟨0, rfl, Nat.zero_le _, Nat.le_refl _, fun k hk => absurd hk (Nat.not_lt_zero k), rfl⟩
  case round =>
    obtain ⟨i, rfl, hi, hk, hD, rfl⟩ := hrel
    have HD := Lib.hid hD
    have HK := Lib.hid hk
    clear hD hk
    by_cases hlt : i < l.length
    · have hd : decide ((i : Int) < (l.length : Int)) = true := by simp; omega
      have hd2 : decide (i < l.length) = true := by simpa using hlt
      have i0 : (0 : Int) ≤ (i : Int) := by omega
      have ci := HC.out i hlt
      have hm : l.getD i ByteArray.empty ∈ l := by
        rw [List.getD, List.getElem?_eq_getElem hlt]; exact List.getElem_mem hlt
      have HM := Lib.hid hm
      clear hm
      cases hv : ((l.getD i ByteArray.empty).toList == x.toList)
      · have HV := Lib.hid hv
        generalize hvv : l.getD i ByteArray.empty = v at *
        have HE := Lib.hid hvv
        clear hvv
        as_aux_lemma =>
        go_wp2_with fail
        have hk' := HK.out
        go_roundg (gk - 1)
        case measure => omega
        case rel => exact ⟨i + 1, by go_num, by omega, by omega, fun k hk => by
          by_cases hki : k < i
          · exact HD.out k hki
          · rw [show k = i by omega, HE.out]; exact HV.out, rfl⟩
      · have HT : Hid (hasB l x = true) := Lib.hid (List.any_eq_true.2 ⟨_, HM.out, hv⟩)
        generalize l.getD i ByteArray.empty = v at *
        as_aux_lemma =>
        go_wp2_with fail
        go_ret
        exact ⟨by rw [HT.out]; rfl, rfl⟩
    · have hd : decide ((i : Int) < (l.length : Int)) = false := by simp; omega
      have hd2 : decide (i < l.length) = false := by simpa using hlt
      have HF : Hid (hasB l x = false) := Lib.hid (by
        cases hc : hasB l x with
        | false => rfl
        | true =>
          obtain ⟨y, hy, he⟩ := List.any_eq_true.1 hc
          obtain ⟨k, hk, hky⟩ := List.getElem_of_mem hy
          have := HD.out k (by omega)
          rw [List.getD, List.getElem?_eq_getElem hk] at this
          simp only [Option.getD_some, hky] at this
          rw [he] at this; cases this)
      go_wp2_with fail
      go_ret
      exact ⟨by rw [HF.out]; rfl, rfl⟩
end Go.Proofs.YtjjmgnllhihoeaaGreatFmt
