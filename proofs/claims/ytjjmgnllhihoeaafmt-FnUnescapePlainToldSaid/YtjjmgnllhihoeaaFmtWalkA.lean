/- What the small functions beneath the statement compute: whether a byte is in a text; whether a text is its runes written anew. -/
import Derived.Test.YtjjmgnllhihoeaaFmtRows
import Derived.Test.YtjjmgnllhihoeaaFmtPlain
import Derived.Test.YtjjmgnllhihoeaaFmtShelf
import Derived.Test.YtjjmgnllhihoeaaFmtFmt
import Derived.WalkKit
import Derived.WalkSpells
import Derived.WalkLawsBesides
import Derived.Lib.Hide
namespace Go.Proofs.YtjjmgnllhihoeaaFmt
open Go.RowKit

/-- Is the byte c among the first k bytes? -/
def inFirst (s : ByteArray) (c : Nat) (k : Nat) : Bool := (s.data.toList.take k).any fun x => x.toNat == c

theorem inFirst_step (s : ByteArray) (c k : Nat) (h : k < s.size) : inFirst s c (k + 1) = (inFirst s c k || (s[k].toNat == c)) := by
  unfold inFirst
  rw [List.take_succ_eq_append_getElem (by simpa using h), List.any_append]
  simp
  rfl

set_option maxHeartbeats 400000 in
theorem within_any (s : ByteArray) (w : World) (hs : s.size ≤ maxLen) :
    Calls Tryf.prog 5 #[.string s, .int .u8 92] w fun e w' => e = .returned (.bool (inFirst s 92 s.size)) ∧ w = w' := by
  unfold maxLen at hs
  go_enter Tryf.func5, Tryf.ntmps5
  go_wp2
  go_loop [8] (fun i => ∃ k : Nat, k ≤ s.size ∧ i = .int .i64 k ∧ inFirst s 92 k = false) (fun i => s.size - (intOf i).toNat)
  case atStart => exact ⟨0, Nat.zero_le _, rfl, by simp [inFirst]⟩
  case round =>
    obtain ⟨k, hk, rfl, hf⟩ := hrel
    have HF := Lib.hid hf
    clear hf
    by_cases hlt : k < s.size
    · have HS := Lib.hid (inFirst_step s 92 k hlt)
      by_cases hc : s[k].toNat = 92
      · have hb : ((s[k].toNat : Int) == 92) = true := by rw [hc]; rfl
        have HC := Lib.hid hc
        clear hc
        go_wp2
        go_ret
        refine ⟨?_, rfl⟩
        have h1 : inFirst s 92 (k + 1) = true := by rw [HS.out, HC.out]; simp
        have h2 : inFirst s 92 s.size = true := by
          unfold inFirst at h1 ⊢
          rw [List.any_eq_true] at h1 ⊢
          obtain ⟨x, hx, hx2⟩ := h1
          exact ⟨x, by rw [List.take_of_length_le (by rw [← Lib.size_eq]; exact Nat.le_refl _)]; exact List.mem_of_mem_take hx, hx2⟩
        rw [h2]; rfl
      · have hb : ((s[k].toNat : Int) == 92) = false := by simp; omega
        have HC := Lib.hid hc
        clear hc
        go_wp2
        go_round
        case rel => exact ⟨k + 1, by omega, by go_num, by rw [HS.out, HF.out]; simpa using HC.out⟩
        case measure => simp [intOf]; omega
    · have hkk : k = s.size := by omega
      go_wp2
      go_ret
      subst hkk
      exact ⟨by rw [HF.out]; rfl, rfl⟩

set_option maxHeartbeats 400000 in
theorem Utf_any (s : ByteArray) (w : World) (hs : s.size ≤ 2000) :
    Calls Tryf.prog 8 #[.string s] w fun e w' => e = .returned (.bool ((runesBytes (runesOf s s.size 0)).toList == s.toList)) ∧ Below w.heap.size w w' := by
  have hcr := conv_runes s s.size 0 #[]
  have hlen := runesOf_length s s.size 0
  generalize runesOf s s.size 0 = ns at hcr hlen ⊢
  have hcr' : Conv.runesFrom s s.size 0 #[] = (ns.map (Value.int .i32)).toArray := by rw [hcr]; simp
  clear hcr
  have h1 := run_runes_of_string (P := Tryf.prog) w 9 54 21 s Tryf.underlying9 Tryf.underlying54 Tryf.underlying21 (by rw [hcr']; simp; omega)
  rw [hcr'] at h1
  simp only [List.size_toArray, List.length_map] at h1
  clear hcr'
  generalize grownCap w ns.length 0 21 = cap at h1
  have h2 := run_convert_runes (P := Tryf.prog) (w.drew.alloc (.cells ((ns.map (Value.int .i32)).toArray ++ Array.replicate (cap - ns.length) (.int .i32 0)) 21)) 54 9 21 ⟨w.heap.size, 0, none⟩ ns.length cap ns (Nat.le_refl _) Tryf.underlying54 Tryf.underlying21 Tryf.underlying9 (by
    intro j hj
    have hb := heap_alloc_new w.drew (.cells ((ns.map (Value.int .i32)).toArray ++ Array.replicate (cap - ns.length) (.int .i32 0)) 21)
    rw [Lib.addr_add]
    unfold World.cell?
    have hb' : (w.drew.alloc (.cells ((ns.map (Value.int .i32)).toArray ++ Array.replicate (cap - ns.length) (.int .i32 0)) 21)).heap[w.heap.size]? = some (.cells ((ns.map (Value.int .i32)).toArray ++ Array.replicate (cap - ns.length) (.int .i32 0)) 21 (0, 0)) := hb
    rw [hb']
    simp only
    rw [Array.getElem?_append_left (by simpa using hj)]
    simp [hj, List.getD])
  rw [List.take_of_length_le (Nat.le_refl _)] at h2
  generalize runesBytes ns = out at h2 ⊢
  have hbel : Below w.heap.size w (w.drew.alloc (.cells ((ns.map (Value.int .i32)).toArray ++ Array.replicate (cap - ns.length) (.int .i32 0)) 21)) := ((Below.refl _ w).drew).alloc (Nat.le_refl _) _
  generalize hw1 : w.drew.alloc (.cells ((ns.map (Value.int .i32)).toArray ++ Array.replicate (cap - ns.length) (.int .i32 0)) 21) = w1 at h1 h2 hbel
  clear hw1
  go_enter Tryf.func8, Tryf.ntmps8
  go_wp2
  go_ret
  exact ⟨rfl, hbel⟩

set_option maxHeartbeats 400000 in
theorem utf_any (s : ByteArray) (w : World) (hs : s.size ≤ 2000) :
    Calls Tryf.prog 6 #[.string s] w fun e w' => e = .returned (.bool ((runesBytes (runesOf s s.size 0)).toList == s.toList)) ∧ Below w.heap.size w w' := by
  go_enter Tryf.func6, Tryf.ntmps6
  go_wp2_with (go_at_call 8; refine (Utf_any s _ hs).mono ?_; rintro e w' ⟨rfl, hb⟩)
  go_ret
  exact ⟨rfl, hb⟩

/-- Some value of the kind int32. -/
def SomeI32 (w : World) (e : Ending) (w' : World) : Prop := ∃ r : Int, e = .returned (.int .i32 r) ∧ -2147483648 ≤ r ∧ r ≤ 2147483647 ∧ w = w'
/-- Some bool. -/
def SomeB (w : World) (e : Ending) (w' : World) : Prop := ∃ b : Bool, e = .returned (.bool b) ∧ w = w'

set_option maxHeartbeats 400000 in
theorem IsSurrogate_any (r : Int) (w : World) : Calls Tryf.prog 14 #[.int .i32 r] w (SomeB w) := by
  by_cases h : 55296 ≤ r
  · go_enter Tryf.func14, Tryf.ntmps14
    go_wp2
    all_goals (go_ret; exact ⟨_, rfl, rfl⟩)
  · go_enter Tryf.func14, Tryf.ntmps14
    go_wp2
    all_goals (go_ret; exact ⟨_, rfl, rfl⟩)

set_option maxHeartbeats 400000 in
theorem DecodeRune_any (r q : Int) (w : World) : Calls Tryf.prog 15 #[.int .i32 r, .int .i32 q] w (SomeI32 w) := by
  by_cases h : (55296 ≤ r ∧ r < 56320) ∧ (56320 ≤ q ∧ q < 57344)
  · obtain ⟨⟨h1, h2⟩, h3, h4⟩ := h
    go_enter Tryf.func15, Tryf.ntmps15
    go_wp2
    go_ret
    exact ⟨_, rfl, by unfold wrap32; omega, by unfold wrap32; omega, rfl⟩
  · go_enter Tryf.func15, Tryf.ntmps15
    go_wp2
    all_goals (go_ret; exact ⟨_, rfl, by omega, by omega, rfl⟩)

/-- Some error that is not nil; new blocks alone. -/
def SomeErr (w : World) (e : Ending) (w' : World) : Prop := ∃ t x, e = .returned (.iface t x) ∧ Below w.heap.size w w'

set_option maxHeartbeats 400000 in
theorem MakeStaticError_any (m : ByteArray) (w : World) :
    Calls Tryf.prog 10 #[.string m, .agg #[.pointer none, .string ⟨#[]⟩, .int .i64 0, .int .i64 0, .int .i64 0, .int .i64 0]] w (SomeErr w) := by
  go_enter Tryf.func10, Tryf.ntmps10
  go_wp2
  go_ret
  exact ⟨_, _, rfl, by repeat (first | exact Below.refl _ _ | refine Below.drew ?_ | refine Below.alloc ?_ (by simp) _)⟩

/-- What decoding four hex digits comes to. -/
def Hex4 (w : World) (e : Ending) (w' : World) : Prop :=
  Below w.heap.size w w' ∧ ((∃ v t x, e = .returned (.tuple #[v, .iface t x])) ∨
    ∃ (g cap : Nat) (x y : Int), e = .returned (.tuple #[.slice (some ⟨g, 0, none⟩) 2 cap, .nilIface]) ∧ w'.cell? ⟨g, 0, none⟩ = some (.int .u8 x) ∧ w'.cell? ⟨g, 1, none⟩ = some (.int .u8 y) ∧ 0 ≤ x ∧ x ≤ 255 ∧ 0 ≤ y ∧ y ≤ 255)

theorem hex_ok_len : ∀ l : List UInt8, l.length = 4 → (Lib.Hx.decode l).2 = .ok → ∃ x y, (Lib.Hx.decode l).1 = [x, y]
  | [a, b, c, d], _, h => by
    rw [Lib.Hx.decode_two, Lib.Hx.decode_two, Lib.Hx.decode_nil] at h ⊢
    repeat' split at h
    all_goals first | (cases h; done) | skip
    rename_i h1 h2 h3 h4
    rw [if_neg h1, if_neg h2, if_neg h3, if_neg h4]
    exact ⟨_, _, rfl⟩

theorem Hex4_any (t : ByteArray) (w : World) (a : Addr) (ht : t.size = 4) (hE : w.cell? ⟨3, 0, none⟩ = some (.iface 73 (.pointer (some a)))) : Calls Tryf.prog 12 #[.string t] w (Hex4 w) := by
  refine (Tryf.hex_DecodeString_owns t w _ hE (by omega)).mono ?_
  rintro e w' ⟨v, rfl, hrow, hb⟩
  refine ⟨hb, ?_⟩
  have hl := hex_ok_len t.data.toList (by rw [← Lib.size_eq]; exact ht)
  generalize Lib.Hx.decode t.data.toList = d at hrow hl ⊢
  obtain ⟨d1, d2⟩ := d
  cases d2 with
  | ok =>
    obtain ⟨x, y, hxy⟩ := hl rfl
    simp only at hxy
    subst hxy
    rcases hrow.2 with ⟨_, hn⟩ | ⟨g, cap, cur, hv, _⟩
    · simp at hn
    · subst hv
      have h0 := hrow.cells (g := g) rfl 0 (.int .u8 (x.toNat : Int)) (by simp)
      have h1 := hrow.cells (g := g) rfl 1 (.int .u8 (y.toNat : Int)) (by simp)
      have hx := x.toNat_lt
      have hy := y.toNat_lt
      exact Or.inr ⟨g, cap, _, _, rfl, by rw [Lib.addr_add] at h0; exact h0, by rw [Lib.addr_add] at h1; exact h1, by omega, by omega, by omega, by omega⟩
  | bad c => exact Or.inl ⟨_, _, _, rfl⟩
  | odd => exact Or.inl ⟨_, _, _, rfl⟩
end Go.Proofs.YtjjmgnllhihoeaaFmt
