/- The reference: figures of base 16; is a text UTF-8; the escapes of a text. -/
import Derived.Test.YtjjmgnllhihoeaaGreatFmtSpF
import Derived.Test.YtjjmgnllhihoeaaGreatFmtRns
import Derived.MapKept
import Derived.Carry
set_option linter.unusedSimpArgs false
set_option linter.unusedVariables false
namespace Go.Proofs.YtjjmgnllhihoeaaGreatFmt
open Go.RowKit
attribute [local go_sem ↓] Go.wp_at_zero Go.wp_at_succ

/-- A figure of base 16, or -1. -/
def HexP (w : World) (e : Ending) (w' : World) : Prop := ∃ h : Int, e = .returned (.int .i64 h) ∧ -1 ≤ h ∧ h ≤ 15 ∧ w = w'

set_option maxRecDepth 100000 in
set_option maxHeartbeats 1600000 in
theorem hex_any (r : Int) (h0 : 0 ≤ r) (h1 : r ≤ 255) (w : World) : Calls Tryz.prog 84 #[.int .u8 r] w (HexP w) := by
  cases hx : nuB r
  · by_cases h97 : 97 ≤ r
    · by_cases h102 : r ≤ 102
      · go_enter Tryz.func84, Tryz.ntmps84
        go_wp2_with (go_at_call 15; refine (digit_any _ _).mono ?_; rintro e w2 ⟨rfl, rfl⟩)
        go_ret
        exact ⟨_, rfl, by omega, by omega, rfl⟩
      · go_enter Tryz.func84, Tryz.ntmps84
        go_wp2_with (go_at_call 15; refine (digit_any _ _).mono ?_; rintro e w2 ⟨rfl, rfl⟩)
        go_ret
        exact ⟨_, rfl, by omega, by omega, rfl⟩
    · by_cases h65 : 65 ≤ r
      · by_cases h70 : r ≤ 70
        · go_enter Tryz.func84, Tryz.ntmps84
          go_wp2_with (go_at_call 15; refine (digit_any _ _).mono ?_; rintro e w2 ⟨rfl, rfl⟩)
          go_ret
          exact ⟨_, rfl, by omega, by omega, rfl⟩
        · go_enter Tryz.func84, Tryz.ntmps84
          go_wp2_with (go_at_call 15; refine (digit_any _ _).mono ?_; rintro e w2 ⟨rfl, rfl⟩)
          go_ret
          exact ⟨_, rfl, by omega, by omega, rfl⟩
      · go_enter Tryz.func84, Tryz.ntmps84
        go_wp2_with (go_at_call 15; refine (digit_any _ _).mono ?_; rintro e w2 ⟨rfl, rfl⟩)
        go_ret
        exact ⟨_, rfl, by omega, by omega, rfl⟩
  · have hb : 48 ≤ r ∧ r ≤ 57 := by unfold nuB at hx; rw [decide_eq_true_iff] at hx; exact hx
    obtain ⟨hb1, hb2⟩ := hb
    go_enter Tryz.func84, Tryz.ntmps84
    go_wp2_with (go_at_call 15; refine (digit_any _ _).mono ?_; rintro e w2 ⟨rfl, rfl⟩)
    go_ret
    exact ⟨_, rfl, by omega, by omega, rfl⟩

/-- Four figures, or -1. -/
def FourP (w : World) (e : Ending) (w' : World) : Prop := ∃ h : Int, e = .returned (.int .i64 h) ∧ -1 ≤ h ∧ h ≤ 65535 ∧ w = w'

set_option maxRecDepth 100000 in
set_option maxHeartbeats 1600000 in
theorem four_any (s : ByteArray) (a : Nat) (w : World) (hs : s.size ≤ 100000) (ha : a ≤ 200000) : Calls Tryz.prog 68 #[.string s, .int .i64 a] w (FourP w) := by
  by_cases h4 : s.size < a + 4
  · have hd : decide ((s.size : Int) < (a : Int) + 4) = true := by simp; omega
    go_enter Tryz.func68, Tryz.ntmps68
    go_wp2_with fail
    go_ret
    exact ⟨_, rfl, by omega, by omega, rfl⟩
  · have hd : decide ((s.size : Int) < (a : Int) + 4) = false := by simp; omega
    go_enter Tryz.func68, Tryz.ntmps68
    go_wp2_with fail
    go_loopg [5, 13] 4 (fun k x5 x13 wr => ∃ (i : Nat) (v : Int), x5 = .int .i64 v ∧ x13 = .int .i64 i ∧ i ≤ 4 ∧ 4 - i ≤ k ∧ 0 ≤ v ∧ v ≤ 65535 ∧ (i < 4 → v ≤ 4095) ∧ (i < 3 → v ≤ 255) ∧ (i < 2 → v ≤ 15) ∧ (i < 1 → v ≤ 0) ∧ wr = w)
    case atStart => exact ⟨0, 0, rfl, rfl, by omega, by omega, by omega, by omega, by omega, by omega, by omega, by omega, rfl⟩
    case round =>
      obtain ⟨i, v, rfl, rfl, hi, hk, hv0, hv1, hv3, hv2, hv1', hv0', rfl⟩ := hrel
      have HK := Lib.hid hk
      have HV : Hid ((i < 4 → v ≤ 4095) ∧ (i < 3 → v ≤ 255) ∧ (i < 2 → v ≤ 15) ∧ (i < 1 → v ≤ 0)) := Lib.hid ⟨hv3, hv2, hv1', hv0'⟩
      have hvb : i < 4 → v ≤ 4095 := hv3
      clear hk hv3 hv2 hv1' hv0'
      by_cases hl : i < 4
      · have hvb' := hvb hl
        clear hvb
        have i0 : (0 : Int) ≤ (a : Int) + (i : Int) := by omega
        have i1 : a + i < s.size := by omega
        have i2 : (a : Int) + (i : Int) < (s.size : Int) := by omega
        have hr0 : (0 : Int) ≤ (s[a + i].toNat : Int) := by omega
        have hr1 : (s[a + i].toNat : Int) ≤ 255 := by have := s[a + i].toNat_lt; omega
        go_wp2_with (go_at_call 84; refine (hex_any _ hr0 hr1 _).mono ?_; rintro e w2 ⟨h, rfl, hh0, hh1, rfl⟩)
        all_goals
          first
            | (go_ret
               exact ⟨_, rfl, by omega, by omega, rfl⟩)
            | (have hk' := HK.out
               have hV := HV.out
               go_roundg (gk - 1)
               case measure => omega
               case rel => exact ⟨i + 1, v * 16 + h, rfl, by go_num, by omega, by omega, by omega, by omega, by omega, by omega, by omega, by omega, rfl⟩)
      · go_wp2_with fail
        go_ret
        exact ⟨_, rfl, by omega, by omega, rfl⟩

theorem findNow_none (x : Int) : ∀ (es : List MapEntry) (i : Nat), (∀ e ∈ es, ∃ k : Int, e.key = .int .u8 k ∧ k ≠ x) → Instr.findNow (.int .u8) (.int .u8 x) es i = some none
  | [], _, _ => rfl
  | e :: es, i, h => by
    obtain ⟨k, hk, hne⟩ := h e (by simp)
    unfold Instr.findNow
    have h1 : Instr.sameNow (.int .u8) (.int .u8 x) e.key = some false := by
      rw [hk]; simp [Instr.sameNow]; exact fun e => hne e.symm
    rw [h1]
    exact findNow_none x es (i + 1) (fun e he => h e (by simp [he]))

theorem findNow_str (x : Int) : ∀ (es : List MapEntry) (i : Nat), (∀ e ∈ es, (∃ k : Int, e.key = .int .u8 k) ∧ ∃ s : ByteArray, e.val = .string s ∧ s.size ≤ 1) →
    Instr.findNow (.int .u8) (.int .u8 x) es i = some none ∨ ∃ (j : Nat) (s : ByteArray), Instr.findNow (.int .u8) (.int .u8 x) es i = some (some (j, .string s)) ∧ s.size ≤ 1
  | [], _, _ => .inl rfl
  | e :: es, i, h => by
    obtain ⟨⟨k, hk⟩, s, hs, hz⟩ := h e (by simp)
    unfold Instr.findNow
    by_cases hx : x = k
    · have h1 : Instr.sameNow (.int .u8) (.int .u8 x) e.key = some true := by
        rw [hk]; simp [Instr.sameNow]; exact hx
      rw [h1]
      exact .inr ⟨i, s, by rw [hs], hz⟩
    · have h1 : Instr.sameNow (.int .u8) (.int .u8 x) e.key = some false := by
        rw [hk]; simp [Instr.sameNow]; exact hx
      rw [h1]
      exact findNow_str x es (i + 1) (fun e he => h e (by simp [he]))

theorem Tryz.zero9 (w : World) : (zeroValue 9).run Tryz.prog w = .ok (.string ⟨#[]⟩) w := by kernel_rfl

theorem run_check (b : Bool) (x : Int) (w : World) : (Instr.checkKey b 10000 5 (.int .u8 x)).run Tryz.prog w = .ok () w := by
  rw [show (10000 : Nat) = 9999 + 1 from rfl, Instr.checkKey]
  simp [run_underlying Tryz.underlying5]

/-- One entry more in a map that the call has made. -/
theorem run_ins (w : World) (es : Array MapEntry) (clock : Nat) (x : Int) (v : Value) (h : ∀ e ∈ es.toList, ∃ k : Int, e.key = .int .u8 k ∧ k ≠ x) :
    (Instr.mapUpdate 108 (.map (some w.heap.size)) (.int .u8 x) v).run Tryz.prog (w.alloc (.map es clock)) = .ok () (w.alloc (.map (es.push { key := .int .u8 x, val := v, born := clock }) (clock + 1))) := by
  have hb := heap_alloc_new w (.map es clock)
  have hf := findNow_none x es.toList 0 h
  simp [Instr.mapUpdate, run_underlying Tryz.underlying108, run_underlying Tryz.underlying5, MapKept.run_getObj_map hb, run_check, Instr.findKey, hf, MapKept.run_setObj_map _ hb, Result.andThen]
  have hp : ∀ o o' : Obj, (w.heap.push o).setIfInBounds w.heap.size o' = w.heap.push o' := fun o o' => by
    apply Array.ext'
    simp
  show World.mk _ _ _ _ _ = World.mk _ _ _ _ _
  congr 1
  exact hp _ _

theorem run_look (w : World) (g : Nat) (es : Array MapEntry) (clock : Nat) (x : Int) (hb : w.heap[g]? = some (.map es clock)) (h : ∀ e ∈ es.toList, (∃ k : Int, e.key = .int .u8 k) ∧ ∃ s : ByteArray, e.val = .string s ∧ s.size ≤ 1) :
    ∃ (s : ByteArray) (ok : Bool), (Instr.lookup 108 (.map (some g)) (.int .u8 x) true).run Tryz.prog w = .ok (.tuple #[.string s, .bool ok]) w ∧ s.size ≤ 1 := by
  rcases findNow_str x es.toList 0 h with hf | ⟨j, s, hf, hz⟩
  · refine ⟨⟨#[]⟩, false, ?_, Nat.zero_le _⟩
    simp [Instr.lookup, run_underlying Tryz.underlying108, run_underlying Tryz.underlying5, MapKept.run_getObj_map hb, run_check, Instr.findKey, hf, Result.andThen, Tryz.zero9]
  · refine ⟨s, true, ?_, hz⟩
    simp [Instr.lookup, run_underlying Tryz.underlying108, run_underlying Tryz.underlying5, MapKept.run_getObj_map hb, run_check, Instr.findKey, hf, Result.andThen]

/-- Some Bool; new blocks alone. -/
def UtfP (w : World) (e : Ending) (w' : World) : Prop := ∃ x : Bool, e = .returned (.bool x) ∧ Below w.heap.size w w'

set_option maxRecDepth 100000 in
set_option maxHeartbeats 1600000 in
theorem utf_any (s : ByteArray) (w : World) (hs : s.size ≤ 100000) : Calls Tryz.prog 6 #[.string s] w (UtfP w) := by
  obtain ⟨zs, hz1, hz2, hz3⟩ := runesFrom_ints s s.size 0 #[]
  have hR : Conv.runesFrom s s.size 0 #[] = (zs.map (Value.int .i32)).toArray := by rw [hz1]; apply Array.ext'; simp
  have hsz : (Conv.runesFrom s s.size 0 #[]).size = zs.length := by rw [hR]; simp
  have hcv := run_runes_of_string (P := Tryz.prog) w 9 39 21 s Tryz.underlying9 Tryz.underlying39 Tryz.underlying21 (by rw [hsz]; omega)
  rw [hsz, hR] at hcv
  generalize grownCap w zs.length 0 21 = cap at hcv
  have hB0 : Below w.heap.size w (w.drew.alloc (.cells ((zs.map (Value.int .i32)).toArray ++ Array.replicate (cap - zs.length) (.int .i32 0)) 21)) := (Below.refl _ w).drew.alloc (Nat.le_refl _) _
  have hcell : ∀ j, j < zs.length → (w.drew.alloc (.cells ((zs.map (Value.int .i32)).toArray ++ Array.replicate (cap - zs.length) (.int .i32 0)) 21)).cell? ((⟨w.heap.size, 0, none⟩ : Addr).add j) = some (.int .i32 (zs.getD j 0)) := by
    intro j hj
    have := heap_alloc_new w.drew (.cells ((zs.map (Value.int .i32)).toArray ++ Array.replicate (cap - zs.length) (.int .i32 0)) 21)
    have e : w.drew.heap.size = w.heap.size := rfl
    rw [e] at this
    rw [Lib.addr_add]
    simp only [World.cell?, this]
    simp [Array.getElem?_append, hj, List.getD]
  generalize w.drew.alloc (.cells ((zs.map (Value.int .i32)).toArray ++ Array.replicate (cap - zs.length) (.int .i32 0)) 21) = W at hcv hB0 hcell
  have hcv2 := run_convert_runes (P := Tryz.prog) W 39 9 21 ⟨w.heap.size, 0, none⟩ zs.length cap zs (Nat.le_refl _) Tryz.underlying39 Tryz.underlying21 Tryz.underlying9 hcell
  have HB := Lib.hid hB0
  clear hz1 hz2 hR hsz hcell hB0
  go_enter Tryz.func6, Tryz.ntmps6
  go_wp2
  go_ret
  exact ⟨_, rfl, HB.out⟩

def Entries (es : Array MapEntry) : Prop := ∀ e ∈ es.toList, (∃ k : Int, e.key = .int .u8 k) ∧ ∃ s : ByteArray, e.val = .string s ∧ s.size ≤ 1

def ent (k : Int) (x : UInt8) (c : Nat) : MapEntry := { key := .int .u8 k, val := .string ⟨#[x]⟩, born := c }

/-- Some text, some state. -/
def UnescP (w : World) (e : Ending) (w' : World) : Prop := ∃ (x : ByteArray) (st : Int), e = .returned (.tuple #[.string x, .int .i64 st]) ∧ Below w.heap.size w w'

set_option maxRecDepth 100000 in
set_option maxHeartbeats 6400000 in
theorem unesc_any (s : ByteArray) (w : World) (hs : s.size ≤ 100000) : Calls Tryz.prog 44 #[.string s] w (UnescP w) := by
  have hmm := @run_makeMap Tryz.prog
  have hin := fun es clock x v h => run_ins w es clock x v h
  go_enter Tryz.func44, Tryz.ntmps44
  go_wp2_with fail
  refine (utf_any s _ hs).mono ?_
  rintro e w1 ⟨x, rfl, hb⟩
  have hbk := hb.block w.heap.size (by simp)
  rw [heap_alloc_new] at hbk
  have hb1 := ((Below.refl _ w).alloc (Nat.le_refl _) _).trans (hb.mono (by simp))
  have HB := Lib.hid hb1
  have hlk := fun x => run_look w1 w.heap.size _ _ x hbk (by
    intro e he
    simp at he
    rcases he with rfl | rfl | rfl | rfl | rfl | rfl | rfl | rfl | rfl
    all_goals exact ⟨⟨_, rfl⟩, _, rfl, by decide⟩)
  have HLk := Lib.hid hlk
  clear hmm hin hb hbk hb1 hlk
  cases x
  · go_wp2_with fail
    refine bodyPost_ret (v := .tuple #[_, _]) (by simp [results, Tryz.results44, go_sem]; exact ⟨rfl, rfl⟩) rfl ?_
    exact ⟨_, _, rfl, HB.out⟩
  · go_wp2_with fail
    go_loopg [5, 6] s.size (fun k x5 x6 wr => ∃ (i : Nat) (o : ByteArray), x5 = .string o ∧ x6 = .int .i64 i ∧ o.size ≤ 8 * i ∧ i ≤ s.size + 20 ∧ s.size - i ≤ k ∧ wr = w1)
    case atStart => exact ⟨0, ⟨#[]⟩, rfl, rfl, Nat.le_refl _, Nat.zero_le _, Nat.le_refl _, rfl⟩
    case round =>
      obtain ⟨i, o, rfl, rfl, ho, hi, hk, rfl⟩ := hrel
      have HK := Lib.hid hk
      clear hk
      have i0 : (0 : Int) ≤ (i : Int) := by omega
      by_cases hlt : i < s.size
      · have hd : decide ((i : Int) < (s.size : Int)) = true := by simp; omega
        obtain ⟨i1, hi1⟩ : ∃ i1, i1 = i + 1 := ⟨_, rfl⟩
        have HI1 := Lib.hid hi1
        have ei1 : (i : Int) + 1 = (i1 : Int) := by omega
        have j1 : (0 : Int) ≤ (i1 : Int) := by omega
        have j2 : (i : Int) ≤ (i1 : Int) := by omega
        have j3 : (i1 : Int) ≤ (s.size : Int) := by omega
        have j4 : i1 ≤ s.size + 1 := by omega
        clear hi1
        by_cases h92 : s[i].toNat = 92
        · have x92 : ((s[i].toNat : Int) != 92) = false := by rw [h92]; rfl
          clear h92
          by_cases hl1 : i1 < s.size
          · have hd1 : decide ((s.size : Int) ≤ (i1 : Int)) = false := by simp; omega
            obtain ⟨pp, ok, hlk, hpp⟩ := HLk.out (s[i1].toNat : Int)
            have hcat : o.size + pp.size ≤ 9223372036854775807 := by omega
            cases ok
            · by_cases h117 : s[i1].toNat = 117
              · have x117 : ((s[i1].toNat : Int) != 117) = false := by rw [h117]; rfl
                clear h117
                obtain ⟨i2, hi2⟩ : ∃ i2, i2 = i1 + 1 := ⟨_, rfl⟩
                have HI2 := Lib.hid hi2
                have ei2 : (i1 : Int) + 1 = (i2 : Int) := by omega
                have hi2b : i2 ≤ 200000 := by omega
                obtain ⟨i3, hi3⟩ : ∃ i3, i3 = i1 + 4 := ⟨_, rfl⟩
                have HI3 := Lib.hid hi3
                have ei3 : (i1 : Int) + 4 = (i3 : Int) := by omega
                clear hi2 hi3 hcat
                go_upto_if 60 with (go_at_call 68; refine (four_any s i2 _ hs hi2b).mono ?_; rintro e w2 ⟨n1, rfl, hn0, hn1, rfl⟩)
                by_cases hneg : n1 < 0
                · as_aux_lemma =>
                  have dn : decide (n1 < 0) = true := by simpa using hneg
                  go_wp2_with fail
                  refine bodyPost_ret (v := .tuple #[_, _]) (by simp [results, Tryz.results44, go_sem]; exact ⟨rfl, rfl⟩) rfl ?_
                  exact ⟨_, _, rfl, HB.out⟩
                · have dn : decide (n1 < 0) = false := by simpa using hneg
                  have n0 : 0 ≤ n1 := by omega
                  clear hneg hn0
                  have i3s : i3 ≤ s.size + 10 := by have := HI3.out; omega
                  have j30 : (0 : Int) ≤ (i3 : Int) := by omega
                  have hcat : o.size + (Utf8.encode n1).size ≤ 9223372036854775807 := by have := encode_size_le n1; omega
                  by_cases h1 : 55296 ≤ n1
                  · have d1 : decide (55296 ≤ n1) = true := by simpa using h1
                    by_cases h2 : n1 < 57344
                    · have d2 : decide (n1 < 57344) = true := by simpa using h2
                      go_upto_region 24 with fail
                      go_cut [91] (fun s91 wx => ∃ x : Bool, s91 = .bool x ∧ wx = wr)
                      case first =>
                        obtain ⟨i4, hi4⟩ : ∃ i4, i4 = i3 + 1 := ⟨_, rfl⟩
                        obtain ⟨i5, hi5⟩ : ∃ i5, i5 = i3 + 2 := ⟨_, rfl⟩
                        have ei4 : (i3 : Int) + 1 = (i4 : Int) := by omega
                        have ei5 : (i3 : Int) + 2 = (i5 : Int) := by omega
                        have j40 : (0 : Int) ≤ (i4 : Int) := by omega
                        have j50 : (0 : Int) ≤ (i5 : Int) := by omega
                        by_cases h3 : n1 < 56320
                        · have d3 : decide (n1 < 56320) = true := by simpa using h3
                          by_cases h5 : i5 < s.size
                          · have d5 : decide ((i5 : Int) < (s.size : Int)) = true := by simp; omega
                            have h4 : i4 < s.size := by omega
                            clear hi4 hi5
                            by_cases hb4 : s[i4].toNat = 92
                            · have y4 : ((s[i4].toNat : Int) == 92) = true := by rw [hb4]; rfl
                              clear hb4
                              by_cases hb5 : s[i5].toNat = 117
                              · as_aux_lemma =>
                                have y5 : ((s[i5].toNat : Int) == 117) = true := by rw [hb5]; rfl
                                clear hb5
                                go_wp2_with fail
                                go_meet
                                exact ⟨_, rfl, rfl⟩
                              · as_aux_lemma =>
                                have y5 : ((s[i5].toNat : Int) == 117) = false := by simp; omega
                                clear hb5
                                go_wp2_with fail
                                go_meet
                                exact ⟨_, rfl, rfl⟩
                            · as_aux_lemma =>
                              have y4 : ((s[i4].toNat : Int) == 92) = false := by simp; omega
                              clear hb4
                              go_wp2_with fail
                              go_meet
                              exact ⟨_, rfl, rfl⟩
                          · as_aux_lemma =>
                            have d5 : decide ((i5 : Int) < (s.size : Int)) = false := by simp; omega
                            clear hi4 hi5
                            go_wp2_with fail
                            go_meet
                            exact ⟨_, rfl, rfl⟩
                        · as_aux_lemma =>
                          have d3 : decide (n1 < 56320) = false := by simpa using h3
                          clear hi4 hi5
                          go_wp2_with fail
                          go_meet
                          exact ⟨_, rfl, rfl⟩
                      case rest =>
                        obtain ⟨x, rfl, hwx⟩ := hcut
                        subst hwx
                        go_upto_if 91 with fail
                        go_cut [10] (fun s10 wx => ∃ low : Int, s10 = .int .i64 low ∧ -1 ≤ low ∧ low ≤ 65535 ∧ Below w.heap.size w wx ∧ wx = wc)
                        case first =>
                          cases x
                          · as_aux_lemma =>
                            go_wp2_with fail
                            go_meet
                            exact ⟨-1, rfl, by omega, by omega, HB.out, rfl⟩
                          · as_aux_lemma =>
                            obtain ⟨i6, hi6⟩ : ∃ i6, i6 = i3 + 3 := ⟨_, rfl⟩
                            have ei6 : (i3 : Int) + 3 = (i6 : Int) := by omega
                            have hi6b : i6 ≤ 200000 := by omega
                            clear hi6
                            go_wp2_with (go_at_call 68; refine (four_any s i6 _ hs hi6b).mono ?_; rintro e w2 ⟨low, rfl, hl0, hl1, rfl⟩)
                            go_meet
                            exact ⟨low, rfl, hl0, hl1, HB.out, rfl⟩
                        case rest =>
                          obtain ⟨low, rfl, hl0, hl1, hBx, hwx⟩ := hcut
                          subst hwx
                          by_cases h7 : low < 56320
                          · as_aux_lemma =>
                            have d7 : decide (low < 56320) = true := by simpa using h7
                            go_wp2_with fail
                            refine bodyPost_ret (v := .tuple #[_, _]) (by simp [results, Tryz.results44, go_sem]; exact ⟨rfl, rfl⟩) rfl ?_
                            exact ⟨_, _, rfl, hBx⟩
                          · have d7 : decide (low < 56320) = false := by simpa using h7
                            by_cases h8 : 57344 ≤ low
                            · as_aux_lemma =>
                              have d8 : decide (57344 ≤ low) = true := by simpa using h8
                              go_wp2_with fail
                              refine bodyPost_ret (v := .tuple #[_, _]) (by simp [results, Tryz.results44, go_sem]; exact ⟨rfl, rfl⟩) rfl ?_
                              exact ⟨_, _, rfl, hBx⟩
                            · as_aux_lemma =>
                              have d8 : decide (57344 ≤ low) = false := by simpa using h8
                              have g1 : 0 ≤ n1 - 55296 := by omega
                              have g2 : n1 - 55296 ≤ 2047 := by omega
                              have g3 : 56320 ≤ low := by omega
                              have g4 : low ≤ 57343 := by omega
                              obtain ⟨i7, hi7⟩ : ∃ i7, i7 = i3 + 6 := ⟨_, rfl⟩
                              have HI7 := Lib.hid hi7
                              have ei7 : (i3 : Int) + 6 = (i7 : Int) := by omega
                              have i7s : i7 ≤ s.size + 16 := by omega
                              have hcatE : ∀ z : Int, o.size + (Utf8.encode z).size ≤ 9223372036854775807 := fun z => by have := encode_size_le z; omega
                              have HBx := Lib.hid hBx
                              clear h7 h8 hi7 hcat
                              go_upto_region 30 with fail
                              clear ei7 ei1 ei2 ei3
                              have hn2 : 0 ≤ 65536 + (n1 - 55296) * 1024 + low - 56320 ∧ 65536 + (n1 - 55296) * 1024 + low - 56320 ≤ 2147483647 := by omega
                              generalize 65536 + (n1 - 55296) * 1024 + low - 56320 = n2 at hn2 ⊢
                              obtain ⟨m1, m2⟩ := hn2
                              have hcat := hcatE n2
                              have j70 : (0 : Int) ≤ (i7 : Int) := by omega
                              clear hcatE
                              go_wp2_with fail
                              have hk' := HK.out
                              have hi1 := HI1.out
                              have hi3 := HI3.out
                              have hi7 := HI7.out
                              go_roundg (gk - 1)
                              case measure => omega
                              case rel => exact ⟨i7 + 1, _, rfl, by go_num, by rw [ByteArray.size_append]; have := encode_size_le n2; omega, by omega, by omega, rfl⟩
                    · as_aux_lemma =>
                      have d2 : decide (n1 < 57344) = false := by simpa using h2
                      go_wp2_with fail
                      have hk' := HK.out
                      have hi1 := HI1.out
                      have hi3 := HI3.out
                      go_roundg (gk - 1)
                      case measure => omega
                      case rel => exact ⟨i3 + 1, _, rfl, by go_num, by rw [ByteArray.size_append]; have := encode_size_le n1; omega, by omega, by omega, rfl⟩
                  · as_aux_lemma =>
                    have d1 : decide (55296 ≤ n1) = false := by simpa using h1
                    go_wp2_with fail
                    have hk' := HK.out
                    have hi1 := HI1.out
                    have hi3 := HI3.out
                    go_roundg (gk - 1)
                    case measure => omega
                    case rel => exact ⟨i3 + 1, _, rfl, by go_num, by rw [ByteArray.size_append]; have := encode_size_le n1; omega, by omega, by omega, rfl⟩
              · as_aux_lemma =>
                have x117 : ((s[i1].toNat : Int) != 117) = true := by simp; omega
                clear h117
                go_wp2_with fail
                refine bodyPost_ret (v := .tuple #[_, _]) (by simp [results, Tryz.results44, go_sem]; exact ⟨rfl, rfl⟩) rfl ?_
                exact ⟨_, _, rfl, HB.out⟩
            · as_aux_lemma =>
              go_wp2_with fail
              have hk' := HK.out
              have hi1 := HI1.out
              go_roundg (gk - 1)
              case measure => omega
              case rel => exact ⟨i1 + 1, o ++ pp, rfl, by go_num, by rw [ByteArray.size_append]; omega, by omega, by omega, rfl⟩
          · as_aux_lemma =>
            have hd1 : decide ((s.size : Int) ≤ (i1 : Int)) = true := by simp; omega
            go_wp2_with fail
            refine bodyPost_ret (v := .tuple #[_, _]) (by simp [results, Tryz.results44, go_sem]; exact ⟨rfl, rfl⟩) rfl ?_
            exact ⟨_, _, rfl, HB.out⟩
        · as_aux_lemma =>
          have x92 : ((s[i].toNat : Int) != 92) = true := by simp; omega
          have hex : (s.extract i i1).size ≤ 1 := by rw [ByteArray.size_extract]; have := HI1.out; omega
          have hcat : o.size + (s.extract i i1).size ≤ 9223372036854775807 := by omega
          clear h92
          go_wp2_with fail
          have hk' := HK.out
          have hi1 := HI1.out
          go_roundg (gk - 1)
          case measure => omega
          case rel => exact ⟨i1, _, rfl, rfl, by rw [ByteArray.size_append]; omega, by omega, by omega, rfl⟩
      · have hd : decide ((i : Int) < (s.size : Int)) = false := by simp; omega
        go_wp2_with fail
        refine bodyPost_ret (v := .tuple #[_, _]) (by simp [results, Tryz.results44, go_sem]; exact ⟨rfl, rfl⟩) rfl ?_
        exact ⟨_, _, rfl, HB.out⟩
end Go.Proofs.YtjjmgnllhihoeaaGreatFmt
