/- Plain facts on bytes and runes for the proof that a text without escapes stands for itself: what is decoded at a place, how wide it is, and that runes written anew are what a conversion to runes and back gives. -/
import Derived.Lib.TrimUEq
import Derived.Shelf.Unicode.DecodeAny
import Derived.Lib.RuneLoops
import Derived.Laws.Cover4
import Derived.Laws.IdiomStrings
namespace Go.Proofs.YtjjmgnllhihoeaaFmt
open Go

theorem decodeN_bounds (n b0 b1 b2 b3 : Nat) (hn : 1 ≤ n) : (Lib.decodeN n b0 b1 b2 b3).2 ≤ n ∧ 1 ≤ (Lib.decodeN n b0 b1 b2 b3).2 := by
  unfold Lib.decodeN
  repeat' split
  all_goals (simp only; omega)

theorem decode_le_left (s : ByteArray) (i : Nat) (h : i < s.size) : i + (Utf8.decode s i).2 ≤ s.size := by
  rw [Lib.decode_N]
  have := (decodeN_bounds (s.data.toList.length - i) (s.data.toList.getD i 0).toNat (s.data.toList.getD (i + 1) 0).toNat (s.data.toList.getD (i + 2) 0).toNat (s.data.toList.getD (i + 3) 0).toNat (by rw [← Lib.size_eq]; omega)).1
  rw [← Lib.size_eq] at this ⊢
  omega

theorem decodeGo_tail (s : ByteArray) (i : Nat) (h : i < s.size) : Lib.decodeGo (s.extract i s.size) = Utf8.decode s i := by
  unfold Lib.decodeGo
  have hz : ¬ (s.extract i s.size).size = 0 := by
    rw [Lib.size_eq, Lib.extract_data]
    simp
    have := Lib.size_eq s
    simp at this
    omega
  have ht : (s.data.toList.drop i).length ≤ s.size - i := by rw [List.length_drop, ← Lib.size_eq]; exact Nat.le_refl _
  rw [if_neg hz, Lib.decode_N, Lib.decode_N, Lib.extract_data, List.take_of_length_le ht]
  rw [Lib.getD_dropU, Lib.getD_dropU, Lib.getD_dropU, Lib.getD_dropU, List.length_drop]
  simp only [Nat.add_zero, Nat.zero_add, Nat.sub_zero]

theorem u8_ofNat (n : Nat) (x : Int) (h : x = (n : Int)) : UInt8.ofNat n = x.toNat.toUInt8 := by
  subst h
  simp

/-- The model's encoding of a rune is the shelf's. -/
theorem encode_eq (r : Int) : (Utf8.encode r).data.toList = Lib.encodeRune r := by
  unfold Utf8.encode Lib.encodeRune Lib.encodeRuneZ Utf8.valid Utf8.runeError
  by_cases h0 : 0 ≤ r ∧ r ≤ 127
  · obtain ⟨n, rfl⟩ := Int.eq_ofNat_of_zero_le h0.1
    have hv : ((decide ((0 : Int) ≤ (n : Int)) && decide ((n : Int) < 55296)) || (decide ((57344 : Int) ≤ (n : Int)) && decide ((n : Int) ≤ 1114111))) = true := by simp; omega
    simp only [hv, if_true, if_pos h0]
    have hn : n < 128 := by omega
    simp [hn]
  · by_cases h1 : 128 ≤ r ∧ r ≤ 2047
    · obtain ⟨n, rfl⟩ := Int.eq_ofNat_of_zero_le (show 0 ≤ r by omega)
      have hv : ((decide ((0 : Int) ≤ (n : Int)) && decide ((n : Int) < 55296)) || (decide ((57344 : Int) ≤ (n : Int)) && decide ((n : Int) ≤ 1114111))) = true := by simp; omega
      simp only [hv, if_true, if_neg h0, if_pos h1]
      have e1 : ¬ n < 128 := by omega
      have e2 : n < 2048 := by omega
      simp only [Int.toNat_natCast, e1, e2, if_true, if_false, List.map_cons, List.map_nil]
      rw [u8_ofNat _ (192 + (n : Int) / 64) (by omega), u8_ofNat _ (128 + (n : Int) % 64) (by omega)]
    · by_cases h2 : (2048 ≤ r ∧ r < 55296) ∨ (57343 < r ∧ r ≤ 65535)
      · obtain ⟨n, rfl⟩ := Int.eq_ofNat_of_zero_le (show 0 ≤ r by omega)
        have hv : ((decide ((0 : Int) ≤ (n : Int)) && decide ((n : Int) < 55296)) || (decide ((57344 : Int) ≤ (n : Int)) && decide ((n : Int) ≤ 1114111))) = true := by simp; omega
        simp only [hv, if_true, if_neg h0, if_neg h1, if_pos h2]
        have e1 : ¬ n < 128 := by omega
        have e2 : ¬ n < 2048 := by omega
        have e3 : n < 65536 := by omega
        simp only [Int.toNat_natCast, e1, e2, e3, if_true, if_false, List.map_cons, List.map_nil]
        rw [u8_ofNat _ (224 + (n : Int) / 4096) (by omega), u8_ofNat _ (128 + (n : Int) / 64 % 64) (by omega), u8_ofNat _ (128 + (n : Int) % 64) (by omega)]
      · by_cases h3 : 65536 ≤ r ∧ r ≤ 1114111
        · obtain ⟨n, rfl⟩ := Int.eq_ofNat_of_zero_le (show 0 ≤ r by omega)
          have hv : ((decide ((0 : Int) ≤ (n : Int)) && decide ((n : Int) < 55296)) || (decide ((57344 : Int) ≤ (n : Int)) && decide ((n : Int) ≤ 1114111))) = true := by simp; omega
          simp only [hv, if_true, if_neg h0, if_neg h1, if_neg h2, if_pos h3]
          have e1 : ¬ n < 128 := by omega
          have e2 : ¬ n < 2048 := by omega
          have e3 : ¬ n < 65536 := by omega
          simp only [Int.toNat_natCast, e1, e2, e3, if_false, List.map_cons, List.map_nil]
          rw [u8_ofNat _ (240 + (n : Int) / 262144) (by omega), u8_ofNat _ (128 + (n : Int) / 4096 % 64) (by omega), u8_ofNat _ (128 + (n : Int) / 64 % 64) (by omega), u8_ofNat _ (128 + (n : Int) % 64) (by omega)]
        · have hv : ((decide ((0 : Int) ≤ r) && decide (r < 55296)) || (decide ((57344 : Int) ≤ r) && decide (r ≤ 1114111))) = false := by simp; omega
          simp only [hv, if_neg h0, if_neg h1, if_neg h2, if_neg h3, Bool.false_eq_true, if_false]
          rfl

/-- The runes of a text from a place on. -/
def runesOf (s : ByteArray) : Nat → Nat → List Int
  | 0, _ => []
  | fuel + 1, pos => if pos < s.size then ((Utf8.decode s pos).1 : Int) :: runesOf s fuel (pos + (Utf8.decode s pos).2) else []

theorem conv_runes (s : ByteArray) : ∀ (fuel pos : Nat) (acc : Array Value), Conv.runesFrom s fuel pos acc = acc ++ ((runesOf s fuel pos).map (Value.int .i32)).toArray
  | 0, pos, acc => by simp [Conv.runesFrom, runesOf]
  | fuel + 1, pos, acc => by
    unfold Conv.runesFrom runesOf
    split
    · show Conv.runesFrom s fuel (pos + (Utf8.decode s pos).2) (acc.push (.int .i32 (Int.ofNat (Utf8.decode s pos).1))) = _
      rw [conv_runes s fuel]
      apply Array.ext'
      simp
    · simp

theorem runesBytes_from (ns : List Int) : ∀ r : ByteArray, (ns.foldl (fun r n => r ++ Utf8.encode n) r).data.toList = r.data.toList ++ ns.flatMap Lib.encodeRune := by
  induction ns with
  | nil => intro r; simp
  | cons n ns ih =>
    intro r
    rw [List.foldl_cons, ih]
    simp [encode_eq]

theorem runesBytes_list (ns : List Int) : (runesBytes ns).data.toList = ns.flatMap Lib.encodeRune := by
  unfold runesBytes
  rw [runesBytes_from]
  simp

theorem runes_anew (s : ByteArray) : ∀ (fuel pos : Nat), (runesOf s fuel pos).flatMap Lib.encodeRune = Lib.runesFrom s fuel pos
  | 0, pos => by simp [runesOf, Lib.runesFrom]
  | fuel + 1, pos => by
    unfold runesOf Lib.runesFrom
    split
    · rw [List.flatMap_cons, runes_anew s fuel]
    · rfl

/-- What a conversion to runes and back gives: the runes written anew. -/
theorem runesBytes_anew (s : ByteArray) (fuel pos : Nat) : runesBytes (runesOf s fuel pos) = ⟨(Lib.runesFrom s fuel pos).toArray⟩ := by
  rw [← runes_anew, ← runesBytes_list]

theorem runesOf_length (s : ByteArray) : ∀ (fuel pos : Nat), (runesOf s fuel pos).length ≤ fuel
  | 0, pos => by simp [runesOf]
  | fuel + 1, pos => by
    unfold runesOf
    split
    · have := runesOf_length s fuel (pos + (Utf8.decode s pos).2)
      simp
      exact this
    · simp

end Go.Proofs.YtjjmgnllhihoeaaFmt
